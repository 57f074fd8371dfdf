/- Verdicts taken apart: what a right one and a wrong one of spec.Can tell. -/
import Derived.Test.YtepeehjajhehfaaGreatDoorMA3
namespace Go.Proofs.YtepeehjajhehfaaGreatDoor
open Go.RowKit Go.PlainAid
set_option linter.unusedVariables false

def Rg (v : Int) : Prop := v = 0 ∨ v = 1 ∨ v = 2
theorem joinOne {v x : Int} (h : joinV v x = 1) : v = 1 ∧ x ≠ 2 ∧ x ≠ 0 := by
  unfold joinV at h
  split at h <;> omega
theorem joinTwo {v x : Int} (h : joinV v x = 2) : v = 2 ∨ x = 2 := by
  unfold joinV at h
  split at h <;> omega
theorem joinRg {v : Int} (hv : Rg v) (x : Int) : Rg (joinV v x) := by
  unfold joinV
  split
  · rename_i h
    rcases h with rfl | ⟨rfl, _⟩
    · exact .inr (.inr rfl)
    · exact .inl rfl
  · exact hv
theorem fold_ax (xs : List Int) : ∀ v, Rg v → (xs.foldl joinV v = 1 → v = 1 ∧ ∀ x ∈ xs, x ≠ 2 ∧ x ≠ 0) ∧ (xs.foldl joinV v = 2 → v = 2 ∨ (2 : Int) ∈ xs) ∧ Rg (xs.foldl joinV v) := by
  induction xs with
  | nil => exact fun v hv => ⟨fun h => ⟨h, by simp⟩, fun h => .inl h, hv⟩
  | cons x xs ih =>
    intro v hv
    obtain ⟨h1, h2, h3⟩ := ih (joinV v x) (joinRg hv x)
    refine ⟨fun h => ?_, fun h => ?_, h3⟩
    · obtain ⟨a, b⟩ := h1 h
      obtain ⟨c, d⟩ := joinOne a
      exact ⟨c, fun y hy => by
        rcases List.mem_cons.1 hy with hy | hy
        · rw [hy]; exact d
        · exact b y hy⟩
    · rcases h2 h with a | a
      · rcases joinTwo a with b | b
        · exact .inl b
        · exact .inr (by rw [b]; simp)
      · exact .inr (List.mem_cons_of_mem _ a)
theorem allV_ax (xs : List Int) : (allV xs = 1 → ∀ x ∈ xs, x ≠ 2 ∧ x ≠ 0) ∧ (allV xs = 2 → (2 : Int) ∈ xs) ∧ Rg (allV xs) := by
  obtain ⟨h1, h2, h3⟩ := fold_ax xs 1 (.inr (.inl rfl))
  exact ⟨fun h => (h1 h).2, fun h => (h2 h).elim (fun e => by cases e) id, h3⟩
theorem fold2 (xs : List Int) : ∀ v, Rg v → (xs.foldl (fun v x => allV [v, x]) v = 1 → v = 1 ∧ ∀ x ∈ xs, x ≠ 2 ∧ x ≠ 0) ∧ (xs.foldl (fun v x => allV [v, x]) v = 2 → v = 2 ∨ (2 : Int) ∈ xs) ∧ Rg (xs.foldl (fun v x => allV [v, x]) v) := by
  induction xs with
  | nil => exact fun v hv => ⟨fun h => ⟨h, by simp⟩, fun h => .inl h, hv⟩
  | cons x xs ih =>
    intro v hv
    have e : allV [v, x] = joinV v x := by
      show joinV (joinV 1 v) x = joinV v x
      have : joinV 1 v = v := by unfold joinV; rcases hv with rfl | rfl | rfl <;> simp
      rw [this]
    have hh := ih (joinV v x) (joinRg hv x)
    rw [← e] at hh
    obtain ⟨h1, h2, h3⟩ := hh
    refine ⟨fun h => ?_, fun h => ?_, h3⟩
    · obtain ⟨a, b⟩ := h1 h
      rw [e] at a
      obtain ⟨c, d⟩ := joinOne a
      exact ⟨c, fun y hy => by
        rcases List.mem_cons.1 hy with hy | hy
        · rw [hy]; exact d
        · exact b y hy⟩
    · rcases h2 h with a | a
      · rw [e] at a
        rcases joinTwo a with b | b
        · exact .inl b
        · exact .inr (by rw [b]; simp)
      · exact .inr (List.mem_cons_of_mem _ a)
theorem rg1 {v : Int} (h : Rg v) (h2 : v ≠ 2 ∧ v ≠ 0) : v = 1 := by
  rcases h with h | h | h
  · exact absurd h h2.2
  · exact h
  · exact absurd h h2.1
theorem if1 {c : Prop} [Decidable c] {a b : Int} (ha : Rg a) (h : (if c then allV [a, b] else a) = 1) : a = 1 ∧ (c → b ≠ 2 ∧ b ≠ 0) := by
  by_cases hc : c
  · rw [if_pos hc] at h
    have h9 := (allV_ax [a, b]).1 h
    exact ⟨rg1 ha (h9 a (by simp)), fun _ => h9 b (by simp)⟩
  · rw [if_neg hc] at h
    exact ⟨h, fun h9 => absurd h9 hc⟩
theorem if2 {c : Prop} [Decidable c] {a b : Int} (h : (if c then allV [a, b] else a) = 2) : a = 2 ∨ (c ∧ b = 2) := by
  by_cases hc : c
  · rw [if_pos hc] at h
    have h9 := (allV_ax [a, b]).2.1 h
    simp only [List.mem_cons, List.not_mem_nil, or_false] at h9
    rcases h9 with h9 | h9
    · exact .inl h9.symm
    · exact .inr ⟨hc, h9.symm⟩
  · rw [if_neg hc] at h
    exact .inl h
theorem ifRg {c : Prop} [Decidable c] {a b : Int} (ha : Rg a) : Rg (if c then allV [a, b] else a) := by
  by_cases hc : c
  · rw [if_pos hc]; exact (allV_ax _).2.2
  · rw [if_neg hc]; exact ha
/-- What the name's verdict is. -/
def NameR (f : Int) (h : Hd) (tn0 tn : Int) : Prop := (f = 1 ∧ tn0 = 1 ∧ ∃ b : Bool, (b = true ↔ (h.name.size ≤ 100 ∨ ∃ i, Sp h.name i)) ∧ tn = whenV b) ∨ (¬ (f = 1 ∧ tn0 = 1) ∧ tn = tn0)
def Yes (v : Int) : Prop := v ≠ 2 ∧ v ≠ 0
def sizeV (h : Hd) (f : Int) : Int := whenV ((decide (0 ≤ h.size) || !hasD h.prom.ty) && (decide (f ≠ 1) || decide (h.size < 8589934592)))
/-- The parts of a right verdict. -/
structure AllYesV {f : Int} (K : CanKit f) (h : Hd) (rs : List (ByteArray × ByteArray)) : Prop where
  ty : TypeOk h.prom
  name : ∃ tn0 tn, K.TR h.name 256 tn0 ∧ NameR f h tn0 tn ∧ Yes tn
  link : ∃ tl, K.TR h.link 100 tl ∧ Yes tl
  un : ∃ ou, K.OR h.un ou ∧ Yes ou
  gn : ∃ og, K.OR h.gn og ∧ Yes og
  mode : Yes (smallV h.mode f false)
  uid : Yes (smallV h.uid f true)
  gid : Yes (smallV h.gid f true)
  maj : Yes (smallV h.maj f false)
  min : Yes (smallV h.min f false)
  sz : Yes (sizeV h f)
  mt : Yes (momentV h.ms h.mn f)
  neg : 0 ≤ h.size
  us : f = 1 → Yes (whenV (decide (0 ≤ h.ms) && decide (h.ms < 8589934592))) ∧ Yes (whenV (!h.ha && !h.hc))
  at_ : h.ha = true → Yes (momentV h.as_ h.an f)
  ct : h.hc = true → Yes (momentV h.cs h.cn f)
  rec0 : ¬ (0 < h.rn ∧ f ≠ 2)
  rcs : ∀ k, k < rs.length → ∃ x, K.RR (rk rs k) (rv rs k) x ∧ Yes x
/-- A part that is wrong. -/
inductive OneNo {f : Int} (K : CanKit f) (h : Hd) (rs : List (ByteArray × ByteArray)) : Prop
  | name (tn0 : Int) (h1 : K.TR h.name 256 tn0) (h2 : NameR f h tn0 2)
  | link (h1 : K.TR h.link 100 2)
  | un (h1 : K.OR h.un 2)
  | gn (h1 : K.OR h.gn 2)
  | mode (h1 : smallV h.mode f false = 2)
  | uid (h1 : smallV h.uid f true = 2)
  | gid (h1 : smallV h.gid f true = 2)
  | maj (h1 : smallV h.maj f false = 2)
  | min (h1 : smallV h.min f false = 2)
  | sz (h1 : sizeV h f = 2)
  | mt (h1 : momentV h.ms h.mn f = 2)
  | us1 (h0 : f = 1) (h1 : whenV (decide (0 ≤ h.ms) && decide (h.ms < 8589934592)) = 2)
  | us2 (h0 : f = 1) (h1 : whenV (!h.ha && !h.hc) = 2)
  | at_ (h0 : h.ha = true) (h1 : momentV h.as_ h.an f = 2)
  | ct (h0 : h.hc = true) (h1 : momentV h.cs h.cn f = 2)
  | rec0 (h0 : 0 < h.rn) (h1 : f ≠ 2)
  | recK (k : Nat) (h0 : k < rs.length) (h1 : K.RR (rk rs k) (rv rs k) 2)
theorem CanR.parts {f : Int} {K : CanKit f} {h : Hd} {rs : List (ByteArray × ByteArray)} {v : Int} (c : CanR K h rs v) : (v = 1 → AllYesV K h rs) ∧ (v = 2 → OneNo K h rs) ∧ Rg v := by
  obtain ⟨v0, tn0, tn, tl, ou, og, v1, v2, v3, v4, v5, v6, v7, v8, hv0, htr, hnm, htl, hou, hog, e1, e2, e3, e4, e5, e6, e7, e8, xs, hxl, hxr, ev⟩ := c.steps
  have r1 : Rg v1 := by rw [e1]; exact (allV_ax _).2.2
  have r2 : Rg v2 := by rw [e2]; exact (allV_ax _).2.2
  have r3 : Rg v3 := by rw [e3]; exact (allV_ax _).2.2
  have r4 : Rg v4 := by rw [e4]; exact ifRg r3
  have r5 : Rg v5 := by
    rw [e5]
    by_cases hf : f = 1
    · rw [if_pos hf]; exact (allV_ax _).2.2
    · rw [if_neg hf]; exact r4
  have r6 : Rg v6 := by rw [e6]; exact ifRg r5
  have r7 : Rg v7 := by rw [e7]; exact ifRg r6
  have r8 : Rg v8 := by rw [e8]; exact ifRg r7
  obtain ⟨q1, q2, q3⟩ := fold2 xs v8 r8
  rw [← ev] at q1 q2 q3
  refine ⟨fun hv => ?_, fun hv => ?_, q3⟩
  · obtain ⟨h8, hx⟩ := q1 hv
    obtain ⟨h7, p8⟩ := if1 r7 (e8.symm.trans h8)
    obtain ⟨h6, p7⟩ := if1 r6 (e7.symm.trans h7)
    obtain ⟨h5, p6⟩ := if1 r5 (e6.symm.trans h6)
    have ⟨h4, p5⟩ : v4 = 1 ∧ (f = 1 → Yes (whenV (decide (0 ≤ h.ms) && decide (h.ms < 8589934592))) ∧ Yes (whenV (!h.ha && !h.hc))) := by
      rw [e5] at h5
      by_cases hf : f = 1
      · rw [if_pos hf] at h5
        have h9 := (allV_ax _).1 h5
        exact ⟨rg1 r4 (h9 _ (by simp)), fun _ => ⟨h9 _ (by simp), h9 _ (by simp)⟩⟩
      · rw [if_neg hf] at h5
        exact ⟨h5, fun h9 => absurd h9 hf⟩
    obtain ⟨h3, p4⟩ := if1 r3 (e4.symm.trans h4)
    have g3 := (allV_ax _).1 (e3.symm.trans h3)
    have h2 := rg1 r2 (g3 v2 (by simp))
    have g2 := (allV_ax _).1 (e2.symm.trans h2)
    have h1 := rg1 r1 (g2 v1 (by simp))
    have g1 := (allV_ax _).1 (e1.symm.trans h1)
    have k0 := g1 v0 (by simp)
    exact {
      ty := by
        rcases hv0 with h9 | ⟨_, h9, _⟩
        · exact absurd h9 k0.2
        · exact h9
      name := ⟨tn0, tn, htr, hnm, g1 tn (by simp)⟩
      link := ⟨tl, htl, g1 tl (by simp)⟩
      un := ⟨ou, hou, g1 ou (by simp)⟩
      gn := ⟨og, hog, g1 og (by simp)⟩
      mode := g2 _ (by simp)
      uid := g2 _ (by simp)
      gid := g2 _ (by simp)
      maj := g2 _ (by simp)
      min := g2 _ (by simp)
      sz := g3 (sizeV h f) (by unfold sizeV; simp)
      mt := g3 _ (by simp)
      neg := by
        rcases Int.lt_or_le h.size 0 with h9 | h9
        · exact absurd rfl (p4 h9).2
        · exact h9
      us := p5
      at_ := p6
      ct := p7
      rec0 := fun h9 => absurd rfl (p8 h9).1
      rcs := fun k hk => ⟨_, hxr k hk, hx _ (by
        have hk2 : k < xs.length := by omega
        have : nv xs k = xs[k] := by simp [nv, List.getD, hk2]
        rw [this]
        exact List.getElem_mem hk2)⟩ }
  · rcases q2 hv with h8 | hx
    · rcases if2 (e8.symm.trans h8) with h7 | ⟨⟨p, q⟩, _⟩
      · rcases if2 (e7.symm.trans h7) with h6 | ⟨p, q⟩
        · rcases if2 (e6.symm.trans h6) with h5 | ⟨p, q⟩
          · have h5' : v4 = 2 ∨ (f = 1 ∧ (whenV (decide (0 ≤ h.ms) && decide (h.ms < 8589934592)) = 2 ∨ whenV (!h.ha && !h.hc) = 2)) := by
              rw [e5] at h5
              by_cases hf : f = 1
              · rw [if_pos hf] at h5
                have h9 := (allV_ax _).2.1 h5
                simp only [List.mem_cons, List.not_mem_nil, or_false] at h9
                rcases h9 with h9 | h9 | h9
                · exact .inl h9.symm
                · exact .inr ⟨hf, .inl h9.symm⟩
                · exact .inr ⟨hf, .inr h9.symm⟩
              · rw [if_neg hf] at h5
                exact .inl h5
            rcases h5' with h4 | ⟨p, q | q⟩
            · rcases if2 (e4.symm.trans h4) with h3 | ⟨_, q⟩
              · have h9 := (allV_ax _).2.1 (e3.symm.trans h3)
                simp only [List.mem_cons, List.not_mem_nil, or_false] at h9
                rcases h9 with h2 | h9 | h9
                · have h9 := (allV_ax _).2.1 (e2.symm.trans h2.symm)
                  simp only [List.mem_cons, List.not_mem_nil, or_false] at h9
                  rcases h9 with h1 | h9 | h9 | h9 | h9 | h9
                  · have h9 := (allV_ax _).2.1 (e1.symm.trans h1.symm)
                    simp only [List.mem_cons, List.not_mem_nil, or_false] at h9
                    rcases h9 with h9 | h9 | h9 | h9 | h9
                    · rcases hv0 with h8 | ⟨h8, _⟩ <;> omega
                    · exact .name tn0 htr (by rw [h9]; exact hnm)
                    · exact .link (by rw [h9]; exact htl)
                    · exact .un (by rw [h9]; exact hou)
                    · exact .gn (by rw [h9]; exact hog)
                  · exact .mode h9.symm
                  · exact .uid h9.symm
                  · exact .gid h9.symm
                  · exact .maj h9.symm
                  · exact .min h9.symm
                · exact .sz h9.symm
                · exact .mt h9.symm
              · cases q
            · exact .us1 p q
            · exact .us2 p q
          · exact .at_ p q
        · exact .ct p q
      · exact .rec0 p q
    · obtain ⟨k, hk, he⟩ := List.getElem_of_mem hx
      refine .recK k (by omega) ?_
      have h9 := hxr k (by omega)
      have : nv xs k = 2 := by rw [← he]; simp [nv, List.getD, hk]
      rwa [this] at h9
end Go.Proofs.YtepeehjajhehfaaGreatDoor
