/- 'append(s, make([]byte, k)...)' onto a row of bytes of the call's own. Over any program. No condition. -/
import Derived.Test.YtlchagphjmfooaaDoorO
import Derived.Lib.AppendZerosOnto
namespace Go.Proofs.YtlchagphjmfooaaDoor
open Go.RowKit Go.PlainAid
set_option linter.unusedSimpArgs false

theorem zeroCells_byte (k : Nat) : (Builtin.zeroCells (Value.cells (.int .u8 0)) k).toList = List.replicate k (Value.int .u8 0) := by
  have h1 : (Value.cells (.int .u8 0)) = #[.int .u8 0] := rfl
  apply List.ext_getElem
  · simp [Builtin.zeroCells, h1]
  · intro i h2 h3
    simp [Builtin.zeroCells, h1, Nat.mod_one]
section
variable {P : Program} (w : World)
theorem run_append_own_zeros (base : Nat) (t tn ty e : TypeId) (i : TypeInfo) (kn : IntKind) (ht : P.underlying t = some (.slice e)) (htn : P.underlying tn = some (.int kn)) (hi : P.info? e = some i) (hz : i.zero = some (.int .u8 0)) (hsize : i.size = 1) (hby : i.bytes = 1)
    (v : Value) (n : Nat) (xs : List Value) (hown : w.ownsRow base e 1 v n xs) (k : Nat) (h48 : n + k ≤ 140737488355328) (hbase : base ≤ w.heap.size) :
    ∃ v' w', (Builtin.append_ #[t, tn] ty #[v, .int .i64 k]).run P w = .ok v' w' ∧ w'.ownsRow base e 1 v' (n + k) (xs ++ List.replicate k (.int .u8 0)) ∧ w.grownBy w' v.ownBlock := by
  have hlen : (xs ++ List.replicate k (Value.int .u8 0)).length = (n + k) * 1 := by rw [List.length_append, hown.1, List.length_replicate]; omega
  have grown : ∀ (old : Nat), old < n + k → ∀ (row : Option Nat),
      (w.drew.alloc (.cells (xs.toArray ++ Builtin.zeroCells (Value.cells (.int .u8 0)) k ++ Builtin.zeroCells (Value.cells (.int .u8 0)) (grownCap w (n + k) old e - (n + k))) e)).ownsRow base e 1
        (.slice (some ⟨w.heap.size, 0, none⟩) (n + k) (grownCap w (n + k) old e)) (n + k) (xs ++ List.replicate k (.int .u8 0)) ∧
      w.grownBy (w.drew.alloc (.cells (xs.toArray ++ Builtin.zeroCells (Value.cells (.int .u8 0)) k ++ Builtin.zeroCells (Value.cells (.int .u8 0)) (grownCap w (n + k) old e - (n + k))) e)) row := by
    intro old ho row
    have hge := grownCap_ge w (n + k) old e
    have hcm : grownCap w (n + k) old e ≤ maxLen := grownCap_le_maxLen w (n + k) old e (by unfold maxLen; omega)
    have hz1 : (Value.cells (.int .u8 0)).size = 1 := rfl
    refine ⟨⟨hlen, .inr ⟨w.heap.size, _, _, rfl, hbase, heap_alloc_new w.drew _, hge, hcm, ?_, ?_⟩⟩, ⟨rfl, rfl, rfl, by simp, fun j hj _ => heap_alloc_old w.drew _ hj⟩⟩
    · have hx := hown.1
      simp only [Array.size_append, List.size_toArray, size_zeroCells, hz1]
      omega
    · simp only [Array.toList_append, zeroCells_byte]
      rw [← hlen]
      exact List.take_left
  have hw : IntKind.i64.wrap (k : Int) = k := by rw [IntKind.wrap_i64]; omega
  have hw0 : IntKind.i64.wrap 0 = 0 := by rw [IntKind.wrap_i64]; omega
  have hneg : ¬ ((k : Int) < 0) := by omega
  have h48i : ¬ (281474976710656 < (k : Int)) := by omega
  rcases hown.2 with ⟨rfl, rfl⟩ | ⟨g, cap, cur, rfl, hbg, hg, hnc, hcm, hcs, htake⟩
  · have hx : xs = [] := List.eq_nil_of_length_eq_zero (by simpa using hown.1)
    subst hx
    by_cases hk : k = 0
    · subst hk
      refine ⟨.slice none 0 0, w, ?_, World.ownsRow_nil w base e 1, ⟨rfl, rfl, rfl, Nat.le_refl _, fun _ _ _ => rfl⟩⟩
      simp [Builtin.append_, run_underlying ht, run_underlying htn, sizeOf, typeInfo, hi, hby, asInt, asIntOf, hw0]
    · have hr := Lib.run_append_grow_zeros w t tn ty e i (.int .u8 0) .i64 kn ht htn hi hz none 0 0 [] (by simp [Builtin.firstCells, loadCells, loadCellsFrom]) k (by omega) (by omega) (by omega) (by omega) (by rw [hby]; omega) (by rw [hby]; have := growslice_fits (need := 0 + k) (old := 0) (bytes := 1) (by omega) (by omega); omega)
      have hgr := grown 0 (by omega) (Value.ownBlock (.slice none 0 0))
      simp only [Nat.zero_add, List.nil_append] at hgr hr ⊢
      exact ⟨_, _, hr, hgr.1, hgr.2⟩
  · by_cases hroom : n + k ≤ cap
    · have hz1 : (Value.cells (.int .u8 0)) = #[.int .u8 0] := rfl
      have hst := run_storeCells_at P g (n * 1) e (List.replicate k (Value.int .u8 0)) 0 cur w hg (by rw [List.length_replicate, hcs]; omega) (fun u hu => by rw [(List.mem_replicate.1 hu).2]; rfl)
      simp only [Nat.add_zero, Nat.mul_one] at hst
      refine ⟨.slice (some ⟨g, 0, none⟩) (n + k) cap, w.setRow g (cur.toList.take n ++ List.replicate k (Value.int .u8 0) ++ cur.toList.drop (n + (List.replicate k (Value.int .u8 0)).length)).toArray, ?_, ⟨hlen, .inr ⟨g, cap, _, rfl, hbg, setRow_heap w g cur _ e _ hg, hroom, hcm, ?_, ?_⟩⟩, ⟨rfl, rfl, rfl, by simp, fun j _ hj => setRow_other w g j _ (fun e => hj (by simp [Value.ownBlock, e]))⟩⟩
      · by_cases hk : k = 0
        · subst hk
          simp at hst
          simp [Builtin.append_, run_underlying ht, run_underlying htn, sizeOf, typeInfo, hi, hby, hsize, asInt, asIntOf, hw0, hnc, Addr.add_lit, hst]
        · simp [Builtin.append_, run_underlying ht, run_underlying htn, sizeOf, typeInfo, zeroValue, hi, hz, hby, hsize, asInt, asIntOf, hw, hneg, h48i, hk, hroom, Addr.add_lit, zeroCells_byte, hst]
      · simp only [List.size_toArray, List.length_append, List.length_take, List.length_drop, Array.length_toList, List.length_replicate]
        omega
      · rw [Nat.mul_one] at htake
        rw [htake, ← hlen]
        exact List.take_left
    · have holds : ∀ j u, xs[j]? = some u → w.cell? ((⟨g, 0, none⟩ : Addr).add j) = some u := hown.cells (g := g) rfl
      have hold := run_firstCells_some (P := P) w.drew i.size n ⟨g, 0, none⟩ n cap xs (by rw [hsize]; exact hown.1) holds
      have hr := Lib.run_append_grow_zeros w t tn ty e i (.int .u8 0) .i64 kn ht htn hi hz (some ⟨g, 0, none⟩) n cap xs hold k (by omega) (by omega) (by omega) (by omega) (by rw [hby]; omega) (by rw [hby]; have := growslice_fits (need := n + k) (old := cap) (bytes := 1) (by omega) (by omega); omega)
      have hgr := grown cap (by omega) (Value.ownBlock (.slice (some ⟨g, 0, none⟩) n cap))
      exact ⟨_, _, hr, hgr.1, hgr.2⟩
end
end Go.Proofs.YtlchagphjmfooaaDoor
