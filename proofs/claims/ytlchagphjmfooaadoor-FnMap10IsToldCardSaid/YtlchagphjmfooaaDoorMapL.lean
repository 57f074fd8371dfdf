/- Maps of strings: the look-up at the operation; a map as the fold of its records. -/
import Derived.Maps.OwnOps
import Derived.Maps.StringElems
import Derived.Maps.Views
import Derived.Test.YtlchagphjmfooaaDoorStrW
import Derived.Test.YtlchagphjmfooaaDoorPutRec
namespace Go.Proofs.YtlchagphjmfooaaDoor
open Go.RowKit Go.PlainAid Go.Maps
set_option linter.unusedVariables false

/-- 'm[k]' (without 'ok') AT ELEMENTS THAT ARE STRINGS. -/
theorem wpList_lookup_own_str {H : Type} {P : Program} (w : World) {ops : Array Oper} {rest : List Oper} {o : Oper} {a : Act} {Q : Exit → Act → World → Prop}
    (hg : o.guard = none) (m x : Operand) (t : TypeId) (hop : o.op = Op.lookup t m x false)
    (k e : TypeId) (K : Keyed P k) (ht : P.underlying t = some (.map k e)) (he : P.underlying e = some .string) (hz : (zeroValue e).run P w = .ok (.string ⟨#[]⟩) w) (b n : Nat) (D : DataW H)
    (hm : a.eval m = .map (some b)) (hown : w.ownsMap P k (plainElem P e) b n D) (key : Value) (kl : Lit) (hx : a.eval x = key) (hkey : keyOf P k key = some kl)
    (hK : ∀ s : ByteArray, D.atKey kl (.lit (.string [])) = .lit (.string s.data.toList) → s.size ≤ maxLen → wpList P ops Q rest (a.put o.dst (.string s)) w) :
    wpList P ops Q (o :: rest) a w := by
  refine wpList_plain hg fun K' hK' => ?_
  obtain ⟨v, ps, hrun, hv⟩ := hown.lookup K ht hz (plainElem_string (H := H) (s := ⟨#[]⟩) he (by unfold maxLen; show (0 : Nat) ≤ _; omega)) hkey
  obtain ⟨s, rfl, hc, hs⟩ := plainElem_string_inv he hv
  simp only [Prod.mk.injEq] at hc
  unfold Oper.wp
  simp [execOp, hop, hm, hx, hrun, Result.andThen]
  exact hK' _ _ (hK s hc.1 hs)
theorem ownsMap_below {H : Type} {P : Program} {k : TypeId} {R : Value → Option (DataW H × List MemPlace)} {w w' : World} {b n B : Nat} {D : DataW H} (h : w.ownsMap P k R b n D) (hb : Below B w w') (hB : b < B) : w'.ownsMap P k R b n D := by
  obtain ⟨es, clock, e, r⟩ := h
  exact ⟨es, clock, (hb.block b hB).trans e, r⟩
theorem strKeyed : Keyed Tryd.prog 9 := string_keyed Tryd.underlying9
theorem zeroStr (w : World) : (zeroValue 9).run Tryd.prog w = .ok (.string ⟨#[]⟩) w := by kernel_rfl
/-- What a map holds into which records were laid, one behind the other. -/
def mapOf (rs : List (ByteArray × ByteArray)) : DataW Unit := rs.foldl (fun d r => d.put (.string r.1.data.toList) (.lit (.string r.2.data.toList))) (.map [])
theorem mapOf_snoc (rs : List (ByteArray × ByteArray)) (r : ByteArray × ByteArray) : mapOf (rs ++ [r]) = (mapOf rs).put (.string r.1.data.toList) (.lit (.string r.2.data.toList)) := by simp [mapOf]
theorem mapOf_isMap (rs : List (ByteArray × ByteArray)) : IsMap (mapOf rs) := by
  have key : ∀ (rs : List (ByteArray × ByteArray)) (d : DataW Unit), IsMap d → IsMap (rs.foldl (fun d r => d.put (.string r.1.data.toList) (.lit (.string r.2.data.toList))) d) := by
    intro rs
    induction rs with
    | nil => exact fun d h => h
    | cons r rs ih => exact fun d h => ih _ (h.put _ _)
  exact key rs _ isMap_empty
theorem strLit (l : List UInt8) : WideAt.IsKeyLit (.string l) := trivial
theorem mapOf_two {k1 k2 v1 v2 : ByteArray} (hne : k1.data.toList ≠ k2.data.toList) (z : DataW Unit) :
    (mapOf [(k1, v1), (k2, v2)]).atKey (.string k1.data.toList) z = .lit (.string v1.data.toList) ∧ (mapOf [(k1, v1), (k2, v2)]).atKey (.string k2.data.toList) z = .lit (.string v2.data.toList) := by
  have e : mapOf [(k1, v1), (k2, v2)] = (mapOf [(k1, v1)]).put (.string k2.data.toList) (.lit (.string v2.data.toList)) := mapOf_snoc [(k1, v1)] (k2, v2)
  have e1 : mapOf [(k1, v1)] = (mapOf []).put (.string k1.data.toList) (.lit (.string v1.data.toList)) := mapOf_snoc [] (k1, v1)
  rw [e]
  constructor
  · rw [atKey_put_other (fun h => hne (by injection h)), e1, atKey_put_same (mapOf_isMap _) (strLit _)]
  · rw [atKey_put_same (mapOf_isMap _) (strLit _)]
end Go.Proofs.YtlchagphjmfooaaDoor
