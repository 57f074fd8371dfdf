/- FnAllowed: the walk over the contracts of spec.Can and impl.Allowed. What the tied condition of FnAllowed gives; and the start that meets it. -/
import Derived.Test.YtepeehjajhehfaaGreatDoorCan1
import Derived.Test.YtepeehjajhehfaaGreatDoorCan2
import Derived.Test.YtepeehjajhehfaaGreatDoorCan3
import Derived.Test.YtepeehjajhehfaaGreatDoorZal
import Derived.Test.YtepeehjajhehfaaGreatDoorFa
import Derived.Test.YtepeehjajhehfaaGreatDoorMA8
import Derived.Test.YtepeehjajhehfaaGreatDoorMA7
import Derived.Test.YtepeehjajhehfaaGreatDoorMA5
import Derived.ProofKit
import Derived.LaidMore
import Derived.OpenShut
import Derived.Stop.Joined
import Derived.Stop.LaidErr
namespace Go.Proofs.YtepeehjajhehfaaGreatDoor
open Go.RowKit Go.PlainAid
set_option linter.unusedVariables false

theorem canAt1 : CanAt (kA 1 (.inl rfl)) := fun h rs w hr ok hs => specCan1 (kA 1 (.inl rfl)) h rs w hr ok (fun _ => trivial) (by omega)
theorem canAt2 : CanAt kA2 := fun h rs w hr ok hs => specCan2 kA2 h rs w hr ok (fun _ => trivial)
theorem canAt3 : CanAt (kA 3 (.inr rfl)) := fun h rs w hr ok hs => specCan3 (kA 3 (.inr rfl)) h rs w hr ok (fun _ => trivial)
theorem fnAllowed_walk (h : Hd) (rs : List (ByteArray × ByteArray)) (w : World) (kin : h.In) (hl : rs.length = h.rn) (hr : RC w w.heap.size h.rA (recsV rs)) (hrn : h.rn ≤ 9223372036854775807) (hT : Tab w) (hBK : BK w.heap.size w) :
    Calls Tryz.prog 4 #[h.ival] w fun e w' => e = .returned (.bool true) ∧ Below w.heap.size w w' :=
  fa_walk canAt1 canAt2 canAt3 alwAt h rs w kin hl hr hrn hT hBK
end Go.Proofs.YtepeehjajhehfaaGreatDoor
namespace Go.Proofs.YtepeehjajhehfaaGreatDoor.fnAllowedLaid
open Go.ChangeShapes Go.WideShapes Go.WideMaps Go.WideElems Go.RowKit

def rowKeys : List (Lit × DataW Unit) := [(.string [97, 116, 105, 109, 101], .lit (.bool true)), (.string [99, 116, 105, 109, 101], .lit (.bool true)), (.string [103, 105, 100], .lit (.bool true)), (.string [103, 110, 97, 109, 101], .lit (.bool true)), (.string [108, 105, 110, 107, 112, 97, 116, 104], .lit (.bool true)), (.string [109, 116, 105, 109, 101], .lit (.bool true)), (.string [112, 97, 116, 104], .lit (.bool true)), (.string [115, 105, 122, 101], .lit (.bool true)), (.string [117, 105, 100], .lit (.bool true)), (.string [117, 110, 97, 109, 101], .lit (.bool true))]
theorem form : ∃ (t0 t1 : String × DataW Unit), Rows.fnAllowedRow.laid = t0 :: t1 :: ("internal/strconv.uint64pow10", Lib.tabData .u64 Lib.pow10Tab) :: ("tapearchives/pub/gotar.basicKeys", .map rowKeys) :: [] := ⟨_, _, rfl⟩
theorem gB : Tryz.prog.globalNamed "tapearchives/pub/gotar.basicKeys" = some 0 := by kernel_rfl
theorem tB : (Tryz.prog.globals[0]?).map (·.type) = some 146 := by kernel_rfl
theorem law : KeyLaw Tryz.prog 9 := string_law Tryz.underlying9
theorem mem_rows (k : ByteArray) : bas k = true ↔ ∃ x ∈ rowKeys, x.1 = .string (bl k) := by
  unfold bas
  rw [List.contains_iff_mem]
  constructor
  · intro h
    unfold basL at h
    simp only [List.mem_cons, List.not_mem_nil, or_false] at h
    have key : ∀ l, bl k = l → (∃ x ∈ rowKeys, x.1 = .string l) → ∃ x ∈ rowKeys, x.1 = .string (bl k) := fun l e h9 => by rw [e]; exact h9
    rcases h with e | e | e | e | e | e | e | e | e | e
    · exact key _ e ⟨(.string [112, 97, 116, 104], .lit (.bool true)), by simp [rowKeys], rfl⟩
    · exact key _ e ⟨(.string [108, 105, 110, 107, 112, 97, 116, 104], .lit (.bool true)), by simp [rowKeys], rfl⟩
    · exact key _ e ⟨(.string [115, 105, 122, 101], .lit (.bool true)), by simp [rowKeys], rfl⟩
    · exact key _ e ⟨(.string [117, 105, 100], .lit (.bool true)), by simp [rowKeys], rfl⟩
    · exact key _ e ⟨(.string [103, 105, 100], .lit (.bool true)), by simp [rowKeys], rfl⟩
    · exact key _ e ⟨(.string [117, 110, 97, 109, 101], .lit (.bool true)), by simp [rowKeys], rfl⟩
    · exact key _ e ⟨(.string [103, 110, 97, 109, 101], .lit (.bool true)), by simp [rowKeys], rfl⟩
    · exact key _ e ⟨(.string [109, 116, 105, 109, 101], .lit (.bool true)), by simp [rowKeys], rfl⟩
    · exact key _ e ⟨(.string [97, 116, 105, 109, 101], .lit (.bool true)), by simp [rowKeys], rfl⟩
    · exact key _ e ⟨(.string [99, 116, 105, 109, 101], .lit (.bool true)), by simp [rowKeys], rfl⟩
  · rintro ⟨x, hx, e⟩
    have hall : ∀ x ∈ rowKeys, ∀ l, x.1 = .string l → l ∈ basL := by
      intro x hx l e
      unfold rowKeys at hx
      simp only [List.mem_cons, List.not_mem_nil, or_false] at hx
      rcases hx with rfl | rfl | rfl | rfl | rfl | rfl | rfl | rfl | rfl | rfl
      all_goals
        injection e with e
        rw [← e]
        decide
    exact hall x hx _ e
theorem all_true : ∀ x ∈ rowKeys, x.2 = .lit (.bool true) := by
  intro x hx
  unfold rowKeys at hx
  simp only [List.mem_cons, List.not_mem_nil, or_false] at hx
  rcases hx with rfl | rfl | rfl | rfl | rfl | rfl | rfl | rfl | rfl | rfl
  all_goals rfl
theorem same_str {a : Lit} {l : List UInt8} : a.sameKey (.string l) = true ↔ a = .string l := by
  cases a with
  | string x => simp [Lit.sameKey]
  | _ => simp [Lit.sameKey]
/-- What the datum answers at a key. -/
theorem at_bas (k : ByteArray) (z : DataW Unit) : (DataW.map rowKeys).atKey (.string (bl k)) z = if bas k = true then .lit (.bool true) else z := by
  by_cases hb : bas k = true
  · rw [if_pos hb]
    obtain ⟨x, hx, e⟩ := (mem_rows k).1 hb
    cases hf : rowKeys.find? (fun p => p.1.sameKey (.string (bl k))) with
    | none => exact absurd (same_str.2 e) (List.find?_eq_none.1 hf x hx)
    | some p =>
      simp only [DataW.atKey, hf]
      exact all_true p (List.mem_of_find?_eq_some hf)
  · rw [if_neg hb]
    cases hf : rowKeys.find? (fun p => p.1.sameKey (.string (bl k))) with
    | none => simp only [DataW.atKey, hf]
    | some p => exact absurd ((mem_rows k).2 ⟨p, List.mem_of_find?_eq_some hf, same_str.1 (List.find?_some (p := fun p : Lit × DataW Unit => p.1.sameKey (.string (bl k))) hf)⟩) hb
set_option maxRecDepth 20000 in
theorem of_laid {W : World} (h0 : laidMetH Tryz.prog Rows.fnAllowedRow.laid W) : Tab W ∧ BK W.heap.size W := by
  have h : laidMet Tryz.prog Rows.fnAllowedRow.laid W := by rw [MakeChecks.laidMetH_plain _ _ _ (by kernel_rfl)] at h0; exact h0
  obtain ⟨t0, t1, hl⟩ := form
  rw [hl] at h
  refine ⟨Lib.tabIs_of_head (g := 3) (by kernel_rfl) (by kernel_rfl) Tryz.underlying194 Tryz.underlying69 (by kernel_rfl) (by kernel_rfl) h.tail.tail, ?_⟩
  have h3 := h.tail.tail.tail
  obtain ⟨ps, ⟨g0, t0, cs0, f0, p0, q0, hg0, ht0, hv0, hd0, _, _⟩, _, _⟩ := h3
  obtain rfl := Option.some.inj (gB.symm.trans hg0)
  obtain rfl := Option.some.inj (tB.symm.trans ht0)
  rcases open_map Tryz.underlying146 hd0 with ⟨_, hx⟩ | ⟨bm, es, clock, m, rfl, hcs, hb, _, F, hx⟩
  · simp [rowKeys] at hx
  simp only [Prod.mk.injEq] at hx
  have hcell : W.cell? ⟨0, 0, none⟩ = some (.map (some bm)) := by
    have := World.var?_cell hg0 hv0 0
    rw [Array.eq_one_of_toList hcs] at this
    simpa using this
  have hlt : (⟨0, 0, none⟩ : Addr).block < W.heap.size := lt_of_cell' hcell
  have hbl : bm < W.heap.size := by
    rcases Nat.lt_or_ge bm W.heap.size with h9 | h9
    · exact h9
    · rw [Array.getElem?_eq_none h9] at hb; cases hb
  refine ⟨bm, fun w' hw => ⟨(hw.cell hlt).trans hcell, fun k hk => ?_⟩⟩
  have hb' : w'.heap[bm]? = some (.map es clock) := (hw.block bm hbl).trans hb
  have zero : (zeroValue 4).run Tryz.prog w' = .ok (.bool false) w' := by kernel_rfl
  rcases fit_lookup (w := w') law Tryz.underlying146 zero hb' F (keyOf_string_mk (s := k) Tryz.underlying9 hk) with ⟨hrun, hat⟩ | ⟨v, y, hrun, hRv, hat, _⟩
  · have h9 := hat .nil
    rw [← hx.1] at h9
    have e9 := at_bas k .nil
    have h9 : (DataW.map rowKeys).atKey (.string (bl k)) .nil = .nil := h9
    rw [h9] at e9
    cases hb9 : bas k with
    | true => rw [hb9, if_pos rfl] at e9; cases e9
    | false => exact hrun
  · obtain ⟨r, rfl, rfl⟩ := elemAt_bool Tryz.underlying4 hRv
    have h9 := hat .nil
    rw [← hx.1] at h9
    have e9 := at_bas k .nil
    have h9 : (DataW.map rowKeys).atKey (.string (bl k)) .nil = .lit (.bool r) := h9
    rw [h9] at e9
    cases hb9 : bas k with
    | true =>
      rw [hb9, if_pos rfl] at e9
      injection e9 with e9
      injection e9 with e9
      rw [e9] at hrun
      exact hrun
    | false => rw [hb9, if_neg (by decide)] at e9; cases e9

set_option maxRecDepth 100000 in
theorem door_met (os : Os) (args : Array Value) : laidMetH Tryz.prog Rows.fnAllowedRow.laid ((World.doorLaid Tryz.prog 400 os).forCall (fun _ _ => 0) ⟨#[], args, []⟩).memory :=
  laidMetH_of_parts3 (fuel := 8) (laidMet_of_run' 8 (by kernel_rfl) (by kernel_rfl)) (by kernel_rfl) (by kernel_rfl)
end Go.Proofs.YtepeehjajhehfaaGreatDoor.fnAllowedLaid
