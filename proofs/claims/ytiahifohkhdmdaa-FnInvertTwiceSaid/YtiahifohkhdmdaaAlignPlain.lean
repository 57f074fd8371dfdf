/- The plain part of the law FnAlign: what the aligned pieces cover. -/
import Derived.Test.YtiahifohkhdmdaaAlign
import Derived.Test.YtiahifohkhdmdaaCovers
namespace Go.Proofs.Ytiahifohkhdmdaa
open Go.RowKit

/-! ### Numbers that came in -/
def nums (ns : List Int) : List Value := ns.map (Value.int .i64)
def nv (ns : List Int) (k : Nat) : Int := ns.getD k 0
theorem length_nums (ns : List Int) : (nums ns).length = ns.length := by simp [nums]
theorem nums_get (ns : List Int) (k : Nat) (h : k < ns.length) : (nums ns)[k]? = some (.int .i64 (nv ns k)) := by simp [nums, nv, List.getD, h]
def Small (ns : List Int) : Prop := ∀ k, -9223372036854775808 ≤ nv ns k ∧ nv ns k ≤ 9223372036854775807
theorem rc_of_isRow {w : World} {a : Option Addr} {len cap : Nat} {zs : List Int} (h : IsRow .i64 w a len cap zs) : ∃ ns : List Int, ns.length = len ∧ RC w w.heap.size a (nums ns) ∧ Small ns := by
  rcases h with ⟨rfl, rfl, rfl, rfl⟩ | ⟨x, rfl, hl, hm, hz, hc, hw⟩
  · exact ⟨[], rfl, RC.nil_, fun k => by simp [nv]⟩
  · refine ⟨zs.take len, by simp; omega, fun hpos => ?_, fun k => ?_⟩
    · rw [length_nums, List.length_take] at hpos
      obtain ⟨b, off, spot⟩ := x
      have h0 := hc 0 (by omega)
      have hs : spot = none := by simpa [Addr.add] using World.cell?_spot h0
      subst hs
      refine ⟨b, off, rfl, ?_, fun i v hi => ?_⟩
      · have := block_lt_of_cell h0
        simpa [Addr.add] using this
      · have hil : i < (zs.take len).length := by
          have := (List.getElem?_eq_some_iff.1 hi).1
          rwa [length_nums] at this
        rw [nums_get _ _ hil] at hi
        obtain rfl := Option.some.inj hi
        rw [List.length_take] at hil
        have hci := hc i (by omega)
        rw [Addr.add_lit] at hci
        rw [hci]
        simp [nv, List.getD, show i < len by omega]
    · by_cases hk : k < (zs.take len).length
      · have : nv (zs.take len) k = (zs.take len)[k] := by rw [nv, List.getD, List.getElem?_eq_getElem hk, Option.getD_some]
        rw [this]
        exact wf_bounds_i64 (hw _ (List.mem_of_mem_take (List.getElem_mem hk)))
      · have : nv (zs.take len) k = 0 := by simp only [nv, List.getD, List.getElem?_eq_none (Nat.le_of_not_lt hk), Option.getD_none]
        rw [this]
        omega
theorem RC.num {w : World} {B : Nat} {A : Option Addr} {ns : List Int} (h : RC w B A (nums ns)) {k : Nat} (hk : k < ns.length) :
    ∃ b off, A = some ⟨b, off, none⟩ ∧ b < B ∧ ∀ j, j < ns.length → w.cell? ⟨b, off + j, none⟩ = some (.int .i64 (nv ns j)) := by
  obtain ⟨b, off, hA, hb, hc⟩ := h (by rw [length_nums]; omega)
  exact ⟨b, off, hA, hb, fun j hj => hc _ _ (nums_get ns j hj)⟩

/-! ### The pieces of FnAlign -/
def aend (ns : List Int) : Nat → Int
  | 0 => 0
  | k + 1 => aend ns k + nv ns (2 * k) % 1200 + nv ns (2 * k + 1) % 2400
def aps (ns : List Int) : Nat → List (Int × Int)
  | 0 => []
  | k + 1 => aps ns k ++ [(aend ns k + nv ns (2 * k) % 1200, nv ns (2 * k + 1) % 2400)]
theorem aend_bd (ns : List Int) (k : Nat) : 0 ≤ aend ns k ∧ aend ns k ≤ 3600 * k := by
  induction k with
  | zero => simp [aend]
  | succ k ih => unfold aend; omega
theorem aps_len (ns : List Int) (k : Nat) : (aps ns k).length = k := by
  induction k with
  | zero => rfl
  | succ k ih => simp [aps, ih]
theorem pcs_aps (ns : List Int) (k : Nat) : pcs (aps ns (k + 1)) = pcs (aps ns k) ++ [.int .i64 (aend ns k + nv ns (2 * k) % 1200), .int .i64 (nv ns (2 * k + 1) % 2400)] := by
  rw [aps, pcs_append]; rfl
theorem aps_at (ns : List Int) (K j : Nat) (h : j < K) : po (aps ns K) j = aend ns j + nv ns (2 * j) % 1200 ∧ pl (aps ns K) j = nv ns (2 * j + 1) % 2400 := by
  induction K with
  | zero => omega
  | succ K ih =>
    by_cases hj : j < K
    · have e : (aps ns (K + 1)).getD j (0, 0) = (aps ns K).getD j (0, 0) := by
        simp [aps, List.getD, List.getElem?_append_left (show j < (aps ns K).length by rw [aps_len]; omega)]
      unfold po pl at ih ⊢
      rw [e]
      exact ih hj
    · obtain rfl : j = K := by omega
      have e : (aps ns (j + 1)).getD j (0, 0) = (aend ns j + nv ns (2 * j) % 1200, nv ns (2 * j + 1) % 2400) := by
        simp [aps, List.getD, aps_len]
      unfold po pl
      rw [e]
      exact ⟨rfl, rfl⟩
theorem ve_aps (ns : List Int) (K j : Nat) (h : j ≤ K) : ve (aps ns K) j = aend ns j := by
  cases j with
  | zero => rfl
  | succ j =>
    obtain ⟨h1, h2⟩ := aps_at ns K j (by omega)
    rw [ve, aend, h1, h2]
theorem aend_mono (ns : List Int) (j K : Nat) (h : j ≤ K) : aend ns j ≤ aend ns K := by
  induction K with
  | zero =>
    obtain rfl : j = 0 := by omega
    exact Int.le_refl _
  | succ K ih =>
    by_cases hj : j ≤ K
    · have := ih hj
      rw [aend]
      omega
    · obtain rfl : j = K + 1 := by omega
      exact Int.le_refl _
theorem aps_ok (ns : List Int) (K : Nat) (S : Int) (hS : aend ns K ≤ S) : ∀ j, j < K → okP (aps ns K) S j := by
  intro j hj
  obtain ⟨h1, h2⟩ := aps_at ns K j hj
  have h3 := ve_aps ns K j (by omega)
  have h4 := aend_mono ns (j + 1) K (by omega)
  rw [aend] at h4
  unfold okP
  rw [h1, h2, h3]
  omega
theorem aps_near (ns : List Int) (K : Nat) (hK : K ≤ 8) : Near (aps ns K) := by
  intro p hp
  obtain ⟨j, hj, rfl⟩ := List.getElem_of_mem hp
  rw [aps_len] at hj
  obtain ⟨h1, h2⟩ := aps_at ns K j hj
  have e : (aps ns K).getD j (0, 0) = (aps ns K)[j]'(by rw [aps_len]; exact hj) := by simp [List.getD, aps_len, hj]
  unfold po at h1
  unfold pl at h2
  rw [e] at h1 h2
  have := aend_bd ns j
  rw [h1, h2]
  omega

/-! ### What the aligned pieces cover -/
def ind (p : Int × Int) (x : Nat) : Int := if p.1 ≤ x ∧ (x : Int) < p.1 + p.2 then 1 else 0
theorem cov_prefix (a b : List (Int × Int)) : ∀ k, k ≤ a.length → ∀ x, cov (a ++ b) k x = cov a k x
  | 0, _, _ => rfl
  | k + 1, h, x => by
    have e : (a ++ b).getD k (0, 0) = a.getD k (0, 0) := by simp [List.getD, List.getElem?_append_left (show k < a.length by omega)]
    rw [cov, cov, cov_prefix a b k (by omega) x]
    unfold po pl
    rw [e]
theorem cov_snoc (a : List (Int × Int)) (p : Int × Int) (x : Nat) : cov (a ++ [p]) (a.length + 1) x = cov a a.length x + ind p x := by
  have e : (a ++ [p]).getD a.length (0, 0) = p := by simp [List.getD]
  rw [cov, cov_prefix a [p] a.length (Nat.le_refl _) x]
  unfold po pl ind
  rw [e]
/-- Whether a block lies whole in one of the first k pieces. -/
def wnt (ps : List (Int × Int)) (i : Int) : Nat → Int
  | 0 => 0
  | k + 1 => if po ps k ≤ i ∧ i + 512 ≤ po ps k + pl ps k then 1 else wnt ps i k
theorem wnt_bd (ps : List (Int × Int)) (i : Int) (k : Nat) : wnt ps i k = 0 ∨ wnt ps i k = 1 := by
  induction k with
  | zero => exact .inl rfl
  | succ k ih => unfold wnt; split <;> simp [ih]
theorem alg1_cov (S : Int) (hS : S % 512 = 0) (p : Int × Int) (i : Int) (x : Nat) (hi : i % 512 = 0) (hx1 : i ≤ x) (hx2 : (x : Int) < i + 512) (new : List (Int × Int)) :
    cov (new ++ alg1 S p) (new ++ alg1 S p).length x = cov new new.length x + if p.1 ≤ i ∧ i + 512 ≤ p.1 + p.2 then 1 else 0 := by
  have hr : (if p.1 + p.2 = S then S else p.1 + p.2 - (p.1 + p.2) % 512) = p.1 + p.2 - (p.1 + p.2) % 512 := by split <;> omega
  unfold alg1
  rw [hr]
  by_cases hc : p.1 + (-p.1) % 512 < p.1 + p.2 - (p.1 + p.2) % 512
  · rw [if_pos hc, List.length_append, List.length_singleton, cov_snoc]
    congr 1
    unfold ind
    simp only []
    by_cases h : p.1 ≤ i ∧ i + 512 ≤ p.1 + p.2
    · rw [if_pos h, if_pos (by omega)]
    · rw [if_neg h, if_neg (by omega)]
  · rw [if_neg hc, List.append_nil, if_neg (by omega)]
    omega
theorem alg_cov (S : Int) (hS : S % 512 = 0) (ps : List (Int × Int)) (hok : ∀ j, j < ps.length → okP ps S j) (i : Int) (x : Nat) (hi : i % 512 = 0) (hx1 : i ≤ x) (hx2 : (x : Int) < i + 512) :
    ∀ k, k ≤ ps.length → cov (alg S (ps.take k)) (alg S (ps.take k)).length x = wnt ps i k ∧ (wnt ps i k = 1 → i + 512 ≤ ve ps k)
  | 0, _ => by
    refine ⟨?_, fun h => by simp [wnt] at h⟩
    simp [alg, cov, wnt]
  | k + 1, h => by
    obtain ⟨h1, h2⟩ := alg_cov S hS ps hok i x hi hx1 hx2 k (by omega)
    have hk := hok k (by omega)
    unfold okP at hk
    rw [alg_take S ps k (by omega), alg1_cov S hS _ i x hi hx1 hx2, h1, wnt, ve]
    simp only []
    have hb := wnt_bd ps i k
    by_cases hc : po ps k ≤ i ∧ i + 512 ≤ po ps k + pl ps k
    · rw [if_pos hc, if_pos hc]
      refine ⟨?_, fun _ => hc.2⟩
      rcases hb with hb | hb
      · omega
      · have := h2 hb; omega
    · rw [if_neg hc, if_neg hc]
      exact ⟨by omega, fun hw => by have := h2 hw; omega⟩
theorem alg_within (S : Int) (ps : List (Int × Int)) (hok : ∀ j, j < ps.length → okP ps S j) : Within (alg S ps) S := by
  have hall : ∀ p ∈ alg S ps, 0 ≤ p.1 ∧ 0 ≤ p.2 ∧ p.1 + p.2 ≤ S := by
    intro p hp
    obtain ⟨q, hq, hpq⟩ := List.mem_flatMap.1 hp
    obtain ⟨j, hj, rfl⟩ := List.getElem_of_mem hq
    have h0 := hok j hj
    have hv := ve_nonneg (ps := ps) (size := S) (k := j) (fun i hi => hok i (by omega))
    have e : ps.getD j (0, 0) = ps[j] := by simp [List.getD, hj]
    unfold okP po pl at h0
    rw [e] at h0
    unfold alg1 at hpq
    by_cases hc : ps[j].1 + (-ps[j].1) % 512 < (if ps[j].1 + ps[j].2 = S then S else ps[j].1 + ps[j].2 - (ps[j].1 + ps[j].2) % 512)
    · rw [if_pos hc] at hpq
      simp only [List.mem_singleton] at hpq
      subst hpq
      have hc' := hc
      by_cases he : ps[j].1 + ps[j].2 = S
      · rw [if_pos he] at hc' ⊢
        simp only []
        omega
      · rw [if_neg he] at hc' ⊢
        simp only []
        omega
    · rw [if_neg hc] at hpq
      simp at hpq
  intro k hk
  have := hall _ (List.getElem_mem hk)
  have e : (alg S ps).getD k (0, 0) = (alg S ps)[k] := by simp [List.getD, hk]
  unfold po pl
  rw [e]
  exact this
theorem aend_succ (ns : List Int) (k j : Nat) (h : j = 2 * k) : aend ns (k + 1) = aend ns k + nv ns j % 1200 + nv ns (j + 1) % 2400 := by rw [aend, h]
theorem pcs_aps_succ (ns : List Int) (k j : Nat) (h : j = 2 * k) : pcs (aps ns (k + 1)) = pcs (aps ns k) ++ [.int .i64 (aend ns k + nv ns j % 1200), .int .i64 (nv ns (j + 1) % 2400)] := by rw [pcs_aps, h]
theorem got_eq (ns : List Int) (k m S i z : Nat) (hS : (S : Int) % 512 = 0) (hok : ∀ j, j < k → okP (aps ns k) S j) (hm : (alg (S : Int) (aps ns k)).length = m) (hi : (i : Int) % 512 = 0) (h1 : i ≤ z) (h2 : z < i + 512) :
    cov (alg (S : Int) (aps ns k)) m z = wnt (aps ns k) i k := by
  have h := (alg_cov S hS (aps ns k) (by rw [aps_len]; exact hok) i z hi (by omega) (by omega) k (by rw [aps_len]; exact Nat.le_refl _)).1
  rw [List.take_of_length_le (by rw [aps_len]; exact Nat.le_refl _), hm] at h
  exact h
end Go.Proofs.Ytiahifohkhdmdaa
