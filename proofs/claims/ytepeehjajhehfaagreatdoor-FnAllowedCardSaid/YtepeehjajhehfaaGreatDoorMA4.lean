/- The formats that are left, as three bools; the small functions over them. The fields of a header block: where they lie and how long they are; types of headers without data. Maps of strings: the look-up at the operation; a map as the fold of its records. The cells over which the closures of allowedFormats work. The law FnSplit: the walk of splitUSTARPath and of the law. isASCII, splitUSTARPath: any string. verifyString: the first closure of allowedFormats. verifyNumeric: the second closure of allowedFormats. verifyTime: the third closure of allowedFormats. -/
import Derived.Test.YtepeehjajhehfaaGreatDoorMA2
import Derived.Maps.OwnOps
import Derived.Maps.StringElems
import Derived.Maps.Views
import Derived.Test.YtepeehjajhehfaaGreatDoorMA1
import Derived.Maps.OwnSet
import Derived.Deep.RegionHeld3
import Derived.Laws.RangeAny
import Derived.Deep.DeepCutAuto
namespace Go.Proofs.YtepeehjajhehfaaGreatDoor
open Go.RowKit Go.PlainAid
set_option linter.unusedVariables false

/-- USTAR, PAX, GNU. -/
def fmtV (u p g : Bool) : Int := (if u then 2 else 0) + (if p then 4 else 0) + (if g then 8 else 0)
set_option maxRecDepth 20000 in
set_option maxHeartbeats 800000 in
theorem notGnu (B : Nat) (u p g : Bool) (w : World) (hc : w.cell? ⟨B, 0, none⟩ = some (.int .i64 (fmtV u p g))) (hf : w.frozen? ⟨B, 0, none⟩ = false) :
    Calls Tryz.prog 73 #[.pointer (some ⟨B, 0, none⟩), .int .i64 8] w fun e w' => e = .returned (.tuple #[]) ∧ w.setCell ⟨B, 0, none⟩ (.int .i64 (fmtV u p false)) = w' := by
  cases u <;> cases p <;> cases g <;>
  (simp only [fmtV, if_true, if_false, Bool.false_eq_true] at hc ⊢
   go_enter Tryz.func73, Tryz.ntmps73
   go_wp2
   refine bodyPost_end (results_none rfl _ _ _) rfl ?_
   exact ⟨rfl, rfl⟩)
set_option maxRecDepth 20000 in
set_option maxHeartbeats 800000 in
theorem notUstar (B : Nat) (u p g : Bool) (w : World) (hc : w.cell? ⟨B, 0, none⟩ = some (.int .i64 (fmtV u p g))) (hf : w.frozen? ⟨B, 0, none⟩ = false) :
    Calls Tryz.prog 73 #[.pointer (some ⟨B, 0, none⟩), .int .i64 2] w fun e w' => e = .returned (.tuple #[]) ∧ w.setCell ⟨B, 0, none⟩ (.int .i64 (fmtV false p g)) = w' := by
  cases u <;> cases p <;> cases g <;>
  (simp only [fmtV, if_true, if_false, Bool.false_eq_true] at hc ⊢
   go_enter Tryz.func73, Tryz.ntmps73
   go_wp2
   refine bodyPost_end (results_none rfl _ _ _) rfl ?_
   exact ⟨rfl, rfl⟩)
set_option maxRecDepth 20000 in
set_option maxHeartbeats 800000 in
theorem notPax (B : Nat) (u p g : Bool) (w : World) (hc : w.cell? ⟨B, 0, none⟩ = some (.int .i64 (fmtV u p g))) (hf : w.frozen? ⟨B, 0, none⟩ = false) :
    Calls Tryz.prog 73 #[.pointer (some ⟨B, 0, none⟩), .int .i64 4] w fun e w' => e = .returned (.tuple #[]) ∧ w.setCell ⟨B, 0, none⟩ (.int .i64 (fmtV u false g)) = w' := by
  cases u <;> cases p <;> cases g <;>
  (simp only [fmtV, if_true, if_false, Bool.false_eq_true] at hc ⊢
   go_enter Tryz.func73, Tryz.ntmps73
   go_wp2
   refine bodyPost_end (results_none rfl _ _ _) rfl ?_
   exact ⟨rfl, rfl⟩)
set_option maxRecDepth 20000 in
set_option maxHeartbeats 800000 in
theorem onlyPax (B : Nat) (u p g : Bool) (w : World) (hc : w.cell? ⟨B, 0, none⟩ = some (.int .i64 (fmtV u p g))) (hf : w.frozen? ⟨B, 0, none⟩ = false) :
    Calls Tryz.prog 101 #[.pointer (some ⟨B, 0, none⟩), .int .i64 4] w fun e w' => e = .returned (.tuple #[]) ∧ w.setCell ⟨B, 0, none⟩ (.int .i64 (fmtV false p false)) = w' := by
  cases u <;> cases p <;> cases g <;>
  (simp only [fmtV, if_true, if_false, Bool.false_eq_true] at hc ⊢
   go_enter Tryz.func101, Tryz.ntmps101
   go_wp2
   refine bodyPost_end (results_none rfl _ _ _) rfl ?_
   exact ⟨rfl, rfl⟩)
set_option maxRecDepth 20000 in
set_option maxHeartbeats 800000 in
theorem fmtHas (u p g : Bool) (w : World) : (Calls Tryz.prog 52 #[.int .i64 (fmtV u p g), .int .i64 2] w fun e w' => e = .returned (.bool u) ∧ w = w') ∧
    (Calls Tryz.prog 52 #[.int .i64 (fmtV u p g), .int .i64 4] w fun e w' => e = .returned (.bool p) ∧ w = w') ∧
    (Calls Tryz.prog 52 #[.int .i64 (fmtV u p g), .int .i64 8] w fun e w' => e = .returned (.bool g) ∧ w = w') := by
  cases u <;> cases p <;> cases g <;>
  (simp only [fmtV, if_true, if_false, Bool.false_eq_true]
   refine ⟨?_, ?_, ?_⟩ <;>
   (go_enter Tryz.func52, Tryz.ntmps52
    go_wp2
    go_ret
    exact ⟨rfl, rfl⟩))
end Go.Proofs.YtepeehjajhehfaaGreatDoor
namespace Go.Proofs.YtepeehjajhehfaaGreatDoor
open Go.RowKit Go.PlainAid
set_option linter.unusedVariables false

set_option maxRecDepth 20000 in
set_option maxHeartbeats 400000 in
theorem fld_name (g : Nat) (w : World) : Calls Tryz.prog 86 #[.pointer (some ⟨g, 0, none⟩)] w fun e w' => e = .returned (.slice (some ⟨g, 0, none⟩) 100 512) ∧ w = w' := by
  go_enter Tryz.func86, Tryz.ntmps86
  go_wp2
  go_ret
  exact ⟨rfl, rfl⟩
set_option maxRecDepth 20000 in
set_option maxHeartbeats 400000 in
theorem fld_mode (g : Nat) (w : World) : Calls Tryz.prog 90 #[.pointer (some ⟨g, 0, none⟩)] w fun e w' => e = .returned (.slice (some ⟨g, 100, none⟩) 8 412) ∧ w = w' := by
  go_enter Tryz.func90, Tryz.ntmps90
  go_wp2
  go_ret
  exact ⟨rfl, rfl⟩
set_option maxRecDepth 20000 in
set_option maxHeartbeats 400000 in
theorem fld_uid (g : Nat) (w : World) : Calls Tryz.prog 91 #[.pointer (some ⟨g, 0, none⟩)] w fun e w' => e = .returned (.slice (some ⟨g, 108, none⟩) 8 404) ∧ w = w' := by
  go_enter Tryz.func91, Tryz.ntmps91
  go_wp2
  go_ret
  exact ⟨rfl, rfl⟩
set_option maxRecDepth 20000 in
set_option maxHeartbeats 400000 in
theorem fld_gid (g : Nat) (w : World) : Calls Tryz.prog 92 #[.pointer (some ⟨g, 0, none⟩)] w fun e w' => e = .returned (.slice (some ⟨g, 116, none⟩) 8 396) ∧ w = w' := by
  go_enter Tryz.func92, Tryz.ntmps92
  go_wp2
  go_ret
  exact ⟨rfl, rfl⟩
set_option maxRecDepth 20000 in
set_option maxHeartbeats 400000 in
theorem fld_size (g : Nat) (w : World) : Calls Tryz.prog 93 #[.pointer (some ⟨g, 0, none⟩)] w fun e w' => e = .returned (.slice (some ⟨g, 124, none⟩) 12 388) ∧ w = w' := by
  go_enter Tryz.func93, Tryz.ntmps93
  go_wp2
  go_ret
  exact ⟨rfl, rfl⟩
set_option maxRecDepth 20000 in
set_option maxHeartbeats 400000 in
theorem fld_modTime (g : Nat) (w : World) : Calls Tryz.prog 96 #[.pointer (some ⟨g, 0, none⟩)] w fun e w' => e = .returned (.slice (some ⟨g, 136, none⟩) 12 376) ∧ w = w' := by
  go_enter Tryz.func96, Tryz.ntmps96
  go_wp2
  go_ret
  exact ⟨rfl, rfl⟩
set_option maxRecDepth 20000 in
set_option maxHeartbeats 400000 in
theorem fld_linkName (g : Nat) (w : World) : Calls Tryz.prog 87 #[.pointer (some ⟨g, 0, none⟩)] w fun e w' => e = .returned (.slice (some ⟨g, 157, none⟩) 100 355) ∧ w = w' := by
  go_enter Tryz.func87, Tryz.ntmps87
  go_wp2
  go_ret
  exact ⟨rfl, rfl⟩
set_option maxRecDepth 20000 in
set_option maxHeartbeats 400000 in
theorem fld_userName (g : Nat) (w : World) : Calls Tryz.prog 88 #[.pointer (some ⟨g, 0, none⟩)] w fun e w' => e = .returned (.slice (some ⟨g, 265, none⟩) 32 247) ∧ w = w' := by
  go_enter Tryz.func88, Tryz.ntmps88
  go_wp2
  go_ret
  exact ⟨rfl, rfl⟩
set_option maxRecDepth 20000 in
set_option maxHeartbeats 400000 in
theorem fld_groupName (g : Nat) (w : World) : Calls Tryz.prog 89 #[.pointer (some ⟨g, 0, none⟩)] w fun e w' => e = .returned (.slice (some ⟨g, 297, none⟩) 32 215) ∧ w = w' := by
  go_enter Tryz.func89, Tryz.ntmps89
  go_wp2
  go_ret
  exact ⟨rfl, rfl⟩
set_option maxRecDepth 20000 in
set_option maxHeartbeats 400000 in
theorem fld_devMajor (g : Nat) (w : World) : Calls Tryz.prog 94 #[.pointer (some ⟨g, 0, none⟩)] w fun e w' => e = .returned (.slice (some ⟨g, 329, none⟩) 8 183) ∧ w = w' := by
  go_enter Tryz.func94, Tryz.ntmps94
  go_wp2
  go_ret
  exact ⟨rfl, rfl⟩
set_option maxRecDepth 20000 in
set_option maxHeartbeats 400000 in
theorem fld_devMinor (g : Nat) (w : World) : Calls Tryz.prog 95 #[.pointer (some ⟨g, 0, none⟩)] w fun e w' => e = .returned (.slice (some ⟨g, 337, none⟩) 8 175) ∧ w = w' := by
  go_enter Tryz.func95, Tryz.ntmps95
  go_wp2
  go_ret
  exact ⟨rfl, rfl⟩
set_option maxRecDepth 20000 in
set_option maxHeartbeats 400000 in
theorem fld_accessTime (g : Nat) (w : World) : Calls Tryz.prog 97 #[.pointer (some ⟨g, 0, none⟩)] w fun e w' => e = .returned (.slice (some ⟨g, 345, none⟩) 12 167) ∧ w = w' := by
  go_enter Tryz.func97, Tryz.ntmps97
  go_wp2
  go_ret
  exact ⟨rfl, rfl⟩
set_option maxRecDepth 20000 in
set_option maxHeartbeats 400000 in
theorem fld_changeTime (g : Nat) (w : World) : Calls Tryz.prog 98 #[.pointer (some ⟨g, 0, none⟩)] w fun e w' => e = .returned (.slice (some ⟨g, 357, none⟩) 12 155) ∧ w = w' := by
  go_enter Tryz.func98, Tryz.ntmps98
  go_wp2
  go_ret
  exact ⟨rfl, rfl⟩
set_option maxRecDepth 20000 in
set_option maxHeartbeats 400000 in
theorem to_toV7 (g : Nat) (w : World) : Calls Tryz.prog 63 #[.pointer (some ⟨g, 0, none⟩)] w fun e w' => e = .returned (.pointer (some ⟨g, 0, none⟩)) ∧ w = w' := by
  go_enter Tryz.func63, Tryz.ntmps63
  go_wp2
  go_ret
  exact ⟨rfl, rfl⟩
set_option maxRecDepth 20000 in
set_option maxHeartbeats 400000 in
theorem to_toUSTAR (g : Nat) (w : World) : Calls Tryz.prog 66 #[.pointer (some ⟨g, 0, none⟩)] w fun e w' => e = .returned (.pointer (some ⟨g, 0, none⟩)) ∧ w = w' := by
  go_enter Tryz.func66, Tryz.ntmps66
  go_wp2
  go_ret
  exact ⟨rfl, rfl⟩
set_option maxRecDepth 20000 in
set_option maxHeartbeats 400000 in
theorem to_toGNU (g : Nat) (w : World) : Calls Tryz.prog 85 #[.pointer (some ⟨g, 0, none⟩)] w fun e w' => e = .returned (.pointer (some ⟨g, 0, none⟩)) ∧ w = w' := by
  go_enter Tryz.func85, Tryz.ntmps85
  go_wp2
  go_ret
  exact ⟨rfl, rfl⟩
/-- Types of headers without data. -/
def hoB (t : Int) : Bool := decide (49 ≤ t) && decide (t ≤ 54)
set_option maxRecDepth 20000 in
set_option maxHeartbeats 800000 in
theorem headerOnly (t : Int) (w : World) : Calls Tryz.prog 102 #[.int .u8 t] w fun e w' => e = .returned (.bool (hoB t)) ∧ w = w' := by
  by_cases h : 49 ≤ t ∧ t ≤ 54
  · have HV : Hid (hoB t = true) := Lib.hid (by unfold hoB; simp [h.1, h.2])
    have h6 : t = 49 ∨ t = 50 ∨ t = 51 ∨ t = 52 ∨ t = 53 ∨ t = 54 := by omega
    rcases h6 with rfl | rfl | rfl | rfl | rfl | rfl
    all_goals
      go_enter Tryz.func102, Tryz.ntmps102
      go_wp2
      go_ret
      exact ⟨by rw [HV.out]; rfl, rfl⟩
  · have HV : Hid (hoB t = false) := Lib.hid (by
      unfold hoB
      by_cases h1 : 49 ≤ t
      · have h2 : ¬ t ≤ 54 := (fun h2 => h ⟨h1, h2⟩)
        rw [decide_eq_false h2, Bool.and_false]
      · rw [decide_eq_false h1, Bool.false_and])
    have n49 : (t == 49) = false := by rw [beq_eq_false_iff_ne]; omega
    have n50 : (t == 50) = false := by rw [beq_eq_false_iff_ne]; omega
    have n51 : (t == 51) = false := by rw [beq_eq_false_iff_ne]; omega
    have n52 : (t == 52) = false := by rw [beq_eq_false_iff_ne]; omega
    have n53 : (t == 53) = false := by rw [beq_eq_false_iff_ne]; omega
    have n54 : (t == 54) = false := by rw [beq_eq_false_iff_ne]; omega
    go_enter Tryz.func102, Tryz.ntmps102
    go_wp2
    go_ret
    exact ⟨by rw [HV.out]; rfl, rfl⟩
set_option maxRecDepth 20000 in
set_option maxHeartbeats 400000 in
theorem implFormat0 (w : World) : Calls Tryz.prog 55 #[.int .i64 0] w fun e w' => e = .returned (.int .i64 0) ∧ w = w' := by
  go_enter Tryz.func55, Tryz.ntmps55
  go_wp2
  go_ret
  exact ⟨rfl, rfl⟩
end Go.Proofs.YtepeehjajhehfaaGreatDoor
namespace Go.Proofs.YtepeehjajhehfaaGreatDoor
open Go.RowKit Go.PlainAid Go.Maps
set_option linter.unusedVariables false

/-- 'm[k]' (without 'ok') AT ELEMENTS THAT ARE STRINGS. -/
theorem wpList_lookup_own_str {H : Type} {P : Program} (w : World) {ops : Array Oper} {rest : List Oper} {o : Oper} {a : Act} {Q : Exit → Act → World → Prop}
    (hg : o.guard = none) (m x : Operand) (t : TypeId) (hop : o.op = Op.lookup t m x false)
    (k e : TypeId) (K : Keyed P k) (ht : P.underlying t = some (.map k e)) (he : P.underlying e = some .string) (hz : (zeroValue e).run P w = .ok (.string ⟨#[]⟩) w) (b n : Nat) (D : DataW H)
    (hm : a.eval m = .map (some b)) (hown : w.ownsMap P k (plainElem P e) b n D) (key : Value) (kl : Lit) (hx : a.eval x = key) (hkey : keyOf P k key = some kl)
    (hK : ∀ s : ByteArray, D.atKey kl (.lit (.string [])) = .lit (.string s.data.toList) → s.size ≤ maxLen → wpList P ops Q rest (a.put o.dst (.string s)) w) :
    wpList P ops Q (o :: rest) a w := by
  refine wpList_plain hg fun K' hK' => ?_
  obtain ⟨v, ps, hrun, hv⟩ := hown.lookup K ht hz (plainElem_string (H := H) (s := ⟨#[]⟩) he (by unfold maxLen; show (0 : Nat) ≤ _; omega)) hkey
  obtain ⟨s, rfl, hc, hs⟩ := plainElem_string_inv he hv
  simp only [Prod.mk.injEq] at hc
  unfold Oper.wp
  simp [execOp, hop, hm, hx, hrun, Result.andThen]
  exact hK' _ _ (hK s hc.1 hs)
theorem ownsMap_below {H : Type} {P : Program} {k : TypeId} {R : Value → Option (DataW H × List MemPlace)} {w w' : World} {b n B : Nat} {D : DataW H} (h : w.ownsMap P k R b n D) (hb : Below B w w') (hB : b < B) : w'.ownsMap P k R b n D := by
  obtain ⟨es, clock, e, r⟩ := h
  exact ⟨es, clock, (hb.block b hB).trans e, r⟩
theorem strKeyed : Keyed Tryz.prog 9 := string_keyed Tryz.underlying9
theorem zeroStr (w : World) : (zeroValue 9).run Tryz.prog w = .ok (.string ⟨#[]⟩) w := by kernel_rfl
/-- What a map holds into which records were laid, one behind the other. -/
def mapOf (rs : List (ByteArray × ByteArray)) : DataW Unit := rs.foldl (fun d r => d.put (.string r.1.data.toList) (.lit (.string r.2.data.toList))) (.map [])
theorem mapOf_snoc (rs : List (ByteArray × ByteArray)) (r : ByteArray × ByteArray) : mapOf (rs ++ [r]) = (mapOf rs).put (.string r.1.data.toList) (.lit (.string r.2.data.toList)) := by simp [mapOf]
theorem strLit (l : List UInt8) : WideAt.IsKeyLit (.string l) := trivial
end Go.Proofs.YtepeehjajhehfaaGreatDoor
namespace Go.Proofs.YtepeehjajhehfaaGreatDoor
open Go.RowKit Go.PlainAid Go.Maps
set_option linter.unusedVariables false

/-- 'v, ok := m[k]' at elements that are strings. -/
theorem wpList_lookup_own_okstr {H : Type} {P : Program} (w : World) {ops : Array Oper} {rest : List Oper} {o : Oper} {a : Act} {Q : Exit → Act → World → Prop}
    (hg : o.guard = none) (m x : Operand) (t : TypeId) (hop : o.op = Op.lookup t m x true)
    (k e : TypeId) (K : Keyed P k) (ht : P.underlying t = some (.map k e)) (he : P.underlying e = some .string) (hz : (zeroValue e).run P w = .ok (.string ⟨#[]⟩) w) (b n : Nat) (D : DataW H)
    (hm : a.eval m = .map (some b)) (hown : w.ownsMap P k (plainElem P e) b n D) (key : Value) (kl : Lit) (hx : a.eval x = key) (hkey : keyOf P k key = some kl)
    (hK : ∀ (s : ByteArray) (ok : Bool), ok = Maps.has D kl → D.atKey kl (.lit (.string [])) = .lit (.string s.data.toList) → s.size ≤ maxLen → wpList P ops Q rest (a.put o.dst (.tuple #[.string s, .bool ok])) w) :
    wpList P ops Q (o :: rest) a w :=
  wpList_lookup_own_ok w hg m x t hop k e K ht (plainElem P e) hz (.lit (.string [])) [] (plainElem_string (s := ⟨#[]⟩) he (by unfold maxLen; show (0 : Nat) ≤ _; omega)) b n D hm hown key kl hx hkey (fun v ps hv => by
    obtain ⟨s, rfl, hc, hs⟩ := plainElem_string_inv he hv
    exact hK s _ rfl (congrArg Prod.fst hc) hs)
/-- The same at a nil map. -/
theorem wpList_lookup_nil_okstr {P : Program} (w : World) {ops : Array Oper} {rest : List Oper} {o : Oper} {a : Act} {Q : Exit → Act → World → Prop}
    (hg : o.guard = none) (m x : Operand) (t : TypeId) (hop : o.op = Op.lookup t m x true)
    (k e : TypeId) (K : Keyed P k) (ht : P.underlying t = some (.map k e)) (hz : (zeroValue e).run P w = .ok (.string ⟨#[]⟩) w)
    (hm : a.eval m = .map none) (key : Value) (kl : Lit) (hx : a.eval x = key) (hkey : keyOf P k key = some kl)
    (hK : wpList P ops Q rest (a.put o.dst (.tuple #[.string ⟨#[]⟩, .bool false])) w) :
    wpList P ops Q (o :: rest) a w := by
  refine wpList_plain hg fun K' hK' => ?_
  have hrun := Maps.look_nil (w := w) true K ht hz hkey
  unfold Oper.wp
  simp [execOp, hop, hm, hx, hrun, Result.andThen]
  exact hK' _ _ hK
theorem ownsMap_of_far {H : Type} {P : Program} {k : TypeId} {R : Value → Option (DataW H × List MemPlace)} {w w' : World} {b n : Nat} {D : DataW H} {S : List Nat} (h : w.ownsMap P k R b n D) (hf : Far S w w') (hb : b ∉ S) : w'.ownsMap P k R b n D := by
  have hl := h.lt
  obtain ⟨es, clock, e, r⟩ := h
  exact ⟨es, clock, (hf.block b hl hb).trans e, r⟩

/-- A map of strings: none, or one below B. -/
def RMap (B : Nat) (pm : Option Nat) (R : List (ByteArray × ByteArray)) (w : World) : Prop :=
  (pm = none ∧ R = []) ∨ ∃ q nn, pm = some q ∧ q < B ∧ w.ownsMap (H := Unit) Tryz.prog 9 (plainElem Tryz.prog 9) q nn (mapOf R)
/-- What holds between the calls of the closures: the boxed header at B, the format, the records to be written (cell and map), three texts, preferPAX. -/
structure AF (B : Nat) (hx : List Value) (pm : Option Nat) (R : List (ByteArray × ByteArray)) (u p g : Bool) (L : List (ByteArray × ByteArray)) (w0 w : World) : Prop where
  bel : Below B w0 w
  hd : Blk w B 75 hx
  hp : hx[18]? = some (.map pm)
  hr : RMap B pm R w
  fm : Blk w (B + 1) 73 [.int .i64 (fmtV u p g)]
  mc : Blk w (B + 2) 72 [.map (some (B + 3))]
  ow : w.ownsMap (H := Unit) Tryz.prog 9 (plainElem Tryz.prog 9) (B + 3) L.length (mapOf L)
  y4 : ∃ s, Blk w (B + 4) 9 [.string s]
  y5 : ∃ s, Blk w (B + 5) 9 [.string s]
  y6 : ∃ s, Blk w (B + 6) 9 [.string s]
  pf : ∃ b, Blk w (B + 7) 4 [.bool b]
section
variable {B : Nat} {hx : List Value} {pm : Option Nat} {R L : List (ByteArray × ByteArray)} {u p g : Bool} {w0 w w' : World}
theorem AF.lt (s : AF B hx pm R u p g L w0 w) : B + 7 < w.heap.size := by
  obtain ⟨b, h⟩ := s.pf
  exact h.lt
theorem RMap.far {S : List Nat} (h : RMap B pm R w) (hf : Far S w w') (hS : ∀ k ∈ S, B ≤ k) : RMap B pm R w' := by
  rcases h with h | ⟨q, nn, h1, h2, h3⟩
  · exact .inl h
  · exact .inr ⟨q, nn, h1, h2, ownsMap_of_far h3 hf (fun hq => by have := hS q hq; omega)⟩
/-- Steps that leave all of it, but for one of the cells. -/
theorem AF.bel' (s : AF B hx pm R u p g L w0 w) {S : List Nat} (hf : Far S w w') (hS : ∀ k ∈ S, B ≤ k) : Below B w0 w' :=
  s.bel.trans (hf.below hS (by have := s.lt; omega))
theorem AF.below (s : AF B hx pm R u p g L w0 w) (hb : Below w.heap.size w w') : AF B hx pm R u p g L w0 w' := by
  have hf : Far [] w w' := Far.of_below hb
  obtain ⟨_, y4⟩ := s.y4
  obtain ⟨_, y5⟩ := s.y5
  obtain ⟨_, y6⟩ := s.y6
  obtain ⟨_, y7⟩ := s.pf
  exact ⟨s.bel' hf (by simp), s.hd.of_far hf (by simp), s.hp, s.hr.far hf (by simp), s.fm.of_far hf (by simp), s.mc.of_far hf (by simp), ownsMap_of_far s.ow hf (by simp), ⟨_, y4.of_far hf (by simp)⟩, ⟨_, y5.of_far hf (by simp)⟩, ⟨_, y6.of_far hf (by simp)⟩, ⟨_, y7.of_far hf (by simp)⟩⟩
theorem AF.drew (s : AF B hx pm R u p g L w0 w) : AF B hx pm R u p g L w0 w.drew := s.below ((Below.refl _ _).drew)
theorem AF.alloc (s : AF B hx pm R u p g L w0 w) (o : Obj) : AF B hx pm R u p g L w0 (w.alloc o) := s.below ((Below.refl _ _).alloc (Nat.le_refl _) o)
theorem far_set (w : World) (k : Nat) (v : Value) : Far [k] w (w.setCell ⟨k, 0, none⟩ v) := (Far.refl _ _).setCell (.inl (by simp)) _
theorem AF.fset (s : AF B hx pm R u p g L w0 w) (u' p' g' : Bool) : AF B hx pm R u' p' g' L w0 (w.setCell ⟨B + 1, 0, none⟩ (.int .i64 (fmtV u' p' g'))) := by
  have hf := far_set w (B + 1) (.int .i64 (fmtV u' p' g'))
  obtain ⟨_, y4⟩ := s.y4
  obtain ⟨_, y5⟩ := s.y5
  obtain ⟨_, y6⟩ := s.y6
  obtain ⟨_, y7⟩ := s.pf
  exact ⟨s.bel' hf (by simp), s.hd.of_far hf (by simp), s.hp, s.hr.far hf (by simp), s.fm.set_ 0 _, s.mc.of_far hf (by simp), ownsMap_of_far s.ow hf (by simp), ⟨_, y4.of_far hf (by simp)⟩, ⟨_, y5.of_far hf (by simp)⟩, ⟨_, y6.of_far hf (by simp)⟩, ⟨_, y7.of_far hf (by simp)⟩⟩
theorem AF.w4 (s : AF B hx pm R u p g L w0 w) (x : ByteArray) : AF B hx pm R u p g L w0 (w.setCell ⟨B + 4, 0, none⟩ (.string x)) := by
  have hf := far_set w (B + 4) (.string x)
  obtain ⟨_, y4⟩ := s.y4
  obtain ⟨_, y5⟩ := s.y5
  obtain ⟨_, y6⟩ := s.y6
  obtain ⟨_, y7⟩ := s.pf
  exact ⟨s.bel' hf (by simp), s.hd.of_far hf (by simp), s.hp, s.hr.far hf (by simp), s.fm.of_far hf (by simp), s.mc.of_far hf (by simp), ownsMap_of_far s.ow hf (by simp), ⟨_, y4.set_ 0 _⟩, ⟨_, y5.of_far hf (by simp)⟩, ⟨_, y6.of_far hf (by simp)⟩, ⟨_, y7.of_far hf (by simp)⟩⟩
theorem AF.w5 (s : AF B hx pm R u p g L w0 w) (x : ByteArray) : AF B hx pm R u p g L w0 (w.setCell ⟨B + 5, 0, none⟩ (.string x)) := by
  have hf := far_set w (B + 5) (.string x)
  obtain ⟨_, y4⟩ := s.y4
  obtain ⟨_, y5⟩ := s.y5
  obtain ⟨_, y6⟩ := s.y6
  obtain ⟨_, y7⟩ := s.pf
  exact ⟨s.bel' hf (by simp), s.hd.of_far hf (by simp), s.hp, s.hr.far hf (by simp), s.fm.of_far hf (by simp), s.mc.of_far hf (by simp), ownsMap_of_far s.ow hf (by simp), ⟨_, y4.of_far hf (by simp)⟩, ⟨_, y5.set_ 0 _⟩, ⟨_, y6.of_far hf (by simp)⟩, ⟨_, y7.of_far hf (by simp)⟩⟩
theorem AF.w6 (s : AF B hx pm R u p g L w0 w) (x : ByteArray) : AF B hx pm R u p g L w0 (w.setCell ⟨B + 6, 0, none⟩ (.string x)) := by
  have hf := far_set w (B + 6) (.string x)
  obtain ⟨_, y4⟩ := s.y4
  obtain ⟨_, y5⟩ := s.y5
  obtain ⟨_, y6⟩ := s.y6
  obtain ⟨_, y7⟩ := s.pf
  exact ⟨s.bel' hf (by simp), s.hd.of_far hf (by simp), s.hp, s.hr.far hf (by simp), s.fm.of_far hf (by simp), s.mc.of_far hf (by simp), ownsMap_of_far s.ow hf (by simp), ⟨_, y4.of_far hf (by simp)⟩, ⟨_, y5.of_far hf (by simp)⟩, ⟨_, y6.set_ 0 _⟩, ⟨_, y7.of_far hf (by simp)⟩⟩
theorem AF.w7 (s : AF B hx pm R u p g L w0 w) (x : Bool) : AF B hx pm R u p g L w0 (w.setCell ⟨B + 7, 0, none⟩ (.bool x)) := by
  have hf := far_set w (B + 7) (.bool x)
  obtain ⟨_, y4⟩ := s.y4
  obtain ⟨_, y5⟩ := s.y5
  obtain ⟨_, y6⟩ := s.y6
  obtain ⟨_, y7⟩ := s.pf
  exact ⟨s.bel' hf (by simp), s.hd.of_far hf (by simp), s.hp, s.hr.far hf (by simp), s.fm.of_far hf (by simp), s.mc.of_far hf (by simp), ownsMap_of_far s.ow hf (by simp), ⟨_, y4.of_far hf (by simp)⟩, ⟨_, y5.of_far hf (by simp)⟩, ⟨_, y6.of_far hf (by simp)⟩, ⟨_, y7.set_ 0 _⟩⟩
theorem AF.upd {L' : List (ByteArray × ByteArray)} (s : AF B hx pm R u p g L w0 w) (hg : w.grownBy w' (some (B + 3))) (ho : w'.ownsMap (H := Unit) Tryz.prog 9 (plainElem Tryz.prog 9) (B + 3) L'.length (mapOf L')) : AF B hx pm R u p g L' w0 w' := by
  have hf : Far [B + 3] w w' := Far.of_grown hg (fun k hk => by cases hk; simp)
  obtain ⟨_, y4⟩ := s.y4
  obtain ⟨_, y5⟩ := s.y5
  obtain ⟨_, y6⟩ := s.y6
  obtain ⟨_, y7⟩ := s.pf
  exact ⟨s.bel' hf (by simp), s.hd.of_far hf (by simp), s.hp, s.hr.far hf (by simp), s.fm.of_far hf (by simp), s.mc.of_far hf (by simp), ho, ⟨_, y4.of_far hf (by simp)⟩, ⟨_, y5.of_far hf (by simp)⟩, ⟨_, y6.of_far hf (by simp)⟩, ⟨_, y7.of_far hf (by simp)⟩⟩
/-- What the walks want of it. -/
theorem AF.c1 (s : AF B hx pm R u p g L w0 w) : w.cell? ⟨B + 1, 0, none⟩ = some (.int .i64 (fmtV u p g)) ∧ w.frozen? ⟨B + 1, 0, none⟩ = false := ⟨s.fm.cell 0, s.fm.frozen 0⟩
theorem AF.c2 (s : AF B hx pm R u p g L w0 w) : w.cell? ⟨B + 2, 0, none⟩ = some (.map (some (B + 3))) ∧ w.frozen? ⟨B + 2, 0, none⟩ = false := ⟨s.mc.cell 0, s.mc.frozen 0⟩
theorem AF.c4 (s : AF B hx pm R u p g L w0 w) : ∃ x, w.cell? ⟨B + 4, 0, none⟩ = some (.string x) ∧ w.frozen? ⟨B + 4, 0, none⟩ = false := by
  obtain ⟨x, h⟩ := s.y4
  exact ⟨x, h.cell 0, h.frozen 0⟩
theorem AF.c5 (s : AF B hx pm R u p g L w0 w) : ∃ x, w.cell? ⟨B + 5, 0, none⟩ = some (.string x) ∧ w.frozen? ⟨B + 5, 0, none⟩ = false := by
  obtain ⟨x, h⟩ := s.y5
  exact ⟨x, h.cell 0, h.frozen 0⟩
theorem AF.c6 (s : AF B hx pm R u p g L w0 w) : ∃ x, w.cell? ⟨B + 6, 0, none⟩ = some (.string x) ∧ w.frozen? ⟨B + 6, 0, none⟩ = false := by
  obtain ⟨x, h⟩ := s.y6
  exact ⟨x, h.cell 0, h.frozen 0⟩
theorem AF.c7 (s : AF B hx pm R u p g L w0 w) : ∃ x, w.cell? ⟨B + 7, 0, none⟩ = some (.bool x) ∧ w.frozen? ⟨B + 7, 0, none⟩ = false := by
  obtain ⟨x, h⟩ := s.pf
  exact ⟨x, h.cell 0, h.frozen 0⟩
theorem AF.c18 (s : AF B hx pm R u p g L w0 w) : w.cell? ⟨B, 18, none⟩ = some (.map pm) := (s.hd.cell 18).trans s.hp
end
end Go.Proofs.YtepeehjajhehfaaGreatDoor
namespace Go.Proofs.YtepeehjajhehfaaGreatDoor
open Go.RowKit Go.PlainAid

theorem bt_extract (s : ByteArray) (L j : Nat) (hL : L ≤ s.size) (hj : j < L) : (((s.extract 0 L).data[j]!).toNat : Int) = bt s j := by
  have h0 : (s.extract 0 L).size = L := by rw [ByteArray.size_extract]; omega
  have h1 : j < (s.extract 0 L).data.size := by
    have e : (s.extract 0 L).data.size = (s.extract 0 L).size := rfl
    omega
  rw [getElem!_pos (s.extract 0 L).data j h1]
  unfold bt
  rw [dif_pos (by omega)]
  congr 2
  simp only [ByteArray.data_extract, Array.getElem_extract, Nat.zero_add]
  rfl
/-- The length in which the Go text looks for the last slash. -/
def Len (s : ByteArray) (L : Nat) : Prop := (156 < s.size ∧ L = 156) ∨ (s.size ≤ 156 ∧ ((bt s (s.size - 1) = 47 ∧ L = s.size - 1) ∨ (bt s (s.size - 1) ≠ 47 ∧ L = s.size)))
theorem sp_lt {s : ByteArray} {L i : Nat} (hL : Len s L) (h : Sp s i) : i < L := by
  unfold Len at hL
  unfold Sp at h
  omega
/-- What the last slash says. -/
theorem last_cases (s : ByteArray) (L : Nat) (hs : 100 < s.size) (hL : Len s L) :
    ∃ i : Int, Lib.lastIndexByte (s.extract 0 L) 47 = i ∧ -1 ≤ i ∧ i ≤ 155 ∧ i < s.size ∧ (s.size : Int) - i - 1 ≠ 0 ∧
      ((i ≤ 0 ∨ 100 < (s.size : Int) - i - 1) → ∀ j, ¬ Sp s j) ∧ (0 < i → (s.size : Int) - i - 1 ≤ 100 → Sp s i.toNat) := by
  have hLs : L ≤ s.size := by unfold Len at hL; omega
  have hL1 : L ≤ 156 := by unfold Len at hL; omega
  have hsz : (s.extract 0 L).size = L := by rw [ByteArray.size_extract]; omega
  rcases Lib.lastIndexByte_spec (s.extract 0 L) 47 with ⟨e, hn⟩ | ⟨i, hi, e, hc, hn⟩
  · refine ⟨-1, e, by omega, by omega, by omega, by omega, fun _ j hj => ?_, fun h => by omega⟩
    have h1 := sp_lt hL hj
    have h2 := hn j (by omega)
    rw [bt_extract s L j hLs h1] at h2
    unfold Sp at hj
    exact h2 hj.2.2.2.1
  · rw [hsz] at hi hn
    rw [bt_extract s L i hLs hi] at hc
    have hne : (s.size : Int) - i - 1 ≠ 0 := by
      unfold Len at hL
      intro h
      have : i = s.size - 1 := by omega
      subst this
      omega
    refine ⟨i, e, by omega, by omega, by omega, hne, fun h j hj => ?_, fun h1 h2 => ?_⟩
    · have h1 := sp_lt hL hj
      have h3 : j ≤ i := by
        rcases Nat.lt_or_ge i j with hlt | hge
        · have h2 := hn j hlt h1
          rw [bt_extract s L j hLs h1] at h2
          unfold Sp at hj
          exact absurd hj.2.2.2.1 h2
        · exact hge
      unfold Sp at hj
      omega
    · unfold Sp
      rw [Int.toNat_natCast]
      omega

/-- What splitUSTARPath leaves on a path of ASCII of more than 100 bytes. -/
def Parted (s : ByteArray) (w : World) (e : Ending) (w' : World) : Prop :=
  Below w.heap.size w w' ∧ ((∃ i, Sp s i ∧ e = .returned (.tuple #[.string (s.extract 0 i), .string (s.extract (i + 1) s.size), .bool true])) ∨
    ((∀ i, ¬ Sp s i) ∧ e = .returned (.tuple #[.string ⟨#[]⟩, .string ⟨#[]⟩, .bool false])))

theorem lastSlash (t : ByteArray) (w : World) (ht : t.size < 4611686018427387904) :
    Calls Tryz.prog 113 #[.string t, .string ⟨#[47]⟩] w fun e w' => e = .returned (.int .i64 (Lib.lastIndexByte t 47)) ∧ w = w' :=
  (Tryz.strings_LastIndex_one t ⟨#[47]⟩ rfl ht w).mono fun _ _ ⟨h1, h2⟩ => ⟨h1, h2.symm⟩

theorem extract_all (s : ByteArray) : s.extract 0 s.size = s := by
  apply ByteArray.ext; simp [ByteArray.data_extract, ← ByteArray.size_data]
set_option linter.unusedVariables false
set_option maxRecDepth 20000 in
set_option maxHeartbeats 1600000 in
theorem longBad1 (s : ByteArray) (w : World) (h100 : 100 < s.size) (hs : s.size ≤ 2147483647) (hA : Asc s) (hc : 156 < s.size) (i : Int) (hi : Lib.lastIndexByte (s.extract 0 (156)) 47 = i) (k1 : -1 ≤ i) (k3 : i < s.size) (k5 : ∀ j, ¬ Sp s j) (c1 : i ≤ 0) :
    Calls Tryz.prog 75 #[.string s] w (Parted s w) := by
  have hb := get_bt s
  have HA := Lib.hid hA
  clear hA
  have hsz : (s.extract 0 (156)).size < 4611686018427387904 := by rw [ByteArray.size_extract]; omega
  have HI := Lib.hid hi
  have HSZ := Lib.hid hsz
  have K5 := Lib.hid k5
  clear hi hsz k5
  go_enter Tryz.func75, Tryz.ntmps75
  go_wp2_with (first
      | (go_at_call 74; refine (isASCII_yes s _ (by omega) HA.out).mono ?_; rintro e w1 ⟨rfl, hb1⟩)
      | (go_at_call 113; refine (lastSlash _ _ HSZ.out).mono ?_; rw [HI.out]; rintro e w' ⟨rfl, rfl⟩))
  go_ret3
  exact ⟨hb1, .inr ⟨K5.out, rfl⟩⟩

set_option maxRecDepth 20000 in
set_option maxHeartbeats 1600000 in
theorem longBad2 (s : ByteArray) (w : World) (h100 : 100 < s.size) (hs : s.size ≤ 2147483647) (hA : Asc s) (hc : 156 < s.size) (i : Int) (hi : Lib.lastIndexByte (s.extract 0 (156)) 47 = i) (k1 : -1 ≤ i) (k3 : i < s.size) (k4 : ((s.size : Int) - i - 1 == 0) = false) (k5 : ∀ j, ¬ Sp s j) (c1 : 0 < i) (c2 : 100 < (s.size : Int) - i - 1) :
    Calls Tryz.prog 75 #[.string s] w (Parted s w) := by
  have hb := get_bt s
  have HA := Lib.hid hA
  clear hA
  have hsz : (s.extract 0 (156)).size < 4611686018427387904 := by rw [ByteArray.size_extract]; omega
  have HI := Lib.hid hi
  have HSZ := Lib.hid hsz
  have K5 := Lib.hid k5
  clear hi hsz k5
  go_enter Tryz.func75, Tryz.ntmps75
  go_wp2_with (first
      | (go_at_call 74; refine (isASCII_yes s _ (by omega) HA.out).mono ?_; rintro e w1 ⟨rfl, hb1⟩)
      | (go_at_call 113; refine (lastSlash _ _ HSZ.out).mono ?_; rw [HI.out]; rintro e w' ⟨rfl, rfl⟩))
  go_ret3
  exact ⟨hb1, .inr ⟨K5.out, rfl⟩⟩

set_option maxRecDepth 20000 in
set_option maxHeartbeats 1600000 in
theorem longGood (s : ByteArray) (w : World) (h100 : 100 < s.size) (hs : s.size ≤ 2147483647) (hA : Asc s) (hc : 156 < s.size) (j : Nat) (hi : Lib.lastIndexByte (s.extract 0 (156)) 47 = (j : Int)) (k3 : j < s.size) (k2 : (j : Int) ≤ 155) (k4 : ((s.size : Int) - j - 1 == 0) = false) (k5 : Sp s j) (c1 : 0 < (j : Int)) (c2 : (s.size : Int) - j - 1 ≤ 100) :
    Calls Tryz.prog 75 #[.string s] w (Parted s w) := by
  have hb := get_bt s
  have HA := Lib.hid hA
  clear hA
  have hsz : (s.extract 0 (156)).size < 4611686018427387904 := by rw [ByteArray.size_extract]; omega
  have HI := Lib.hid hi
  have HSZ := Lib.hid hsz
  have K5 := Lib.hid k5
  clear hi hsz k5
  go_enter Tryz.func75, Tryz.ntmps75
  go_wp2_with (first
      | (go_at_call 74; refine (isASCII_yes s _ (by omega) HA.out).mono ?_; rintro e w1 ⟨rfl, hb1⟩)
      | (go_at_call 113; refine (lastSlash _ _ HSZ.out).mono ?_; rw [HI.out]; rintro e w' ⟨rfl, rfl⟩))
  have hw1 : IntKind.i64.wrap ((j : Int) + 1) = (j : Int) + 1 := IntWalk.i64_in _ (by omega)
  have hw2 : ((j : Int) + 1).toNat = j + 1 := by omega
  have hw3 : (0 : Int) ≤ (j : Int) := by omega
  have hw4 : (j : Int) ≤ (s.size : Int) := by omega
  have hw5 : (0 : Int) ≤ (j : Int) + 1 := by omega
  have hw6 : (j : Int) + 1 ≤ (s.size : Int) := by omega
  have hw7 : j ≤ s.size := by omega
  go_region_held3 (fun _ => True) (trivial) (fail)
  go_wp2
  go_ret3
  exact ⟨hb1.drew, .inl ⟨j, K5.out, rfl⟩⟩

set_option maxRecDepth 20000 in
set_option maxHeartbeats 1600000 in
theorem slashBad1 (s : ByteArray) (w : World) (h100 : 100 < s.size) (hs : s.size ≤ 2147483647) (hA : Asc s) (hc : s.size ≤ 156) (hc2 : (bt s (s.size - 1) == 47) = true) (i : Int) (hi : Lib.lastIndexByte (s.extract 0 (s.size - 1)) 47 = i) (k1 : -1 ≤ i) (k3 : i < s.size) (k5 : ∀ j, ¬ Sp s j) (c1 : i ≤ 0) :
    Calls Tryz.prog 75 #[.string s] w (Parted s w) := by
  have hb := get_bt s
  have HA := Lib.hid hA
  clear hA
  have hsz : (s.extract 0 (s.size - 1)).size < 4611686018427387904 := by rw [ByteArray.size_extract]; omega
  have HI := Lib.hid hi
  have HSZ := Lib.hid hsz
  have K5 := Lib.hid k5
  clear hi hsz k5
  go_enter Tryz.func75, Tryz.ntmps75
  go_wp2_with (first
      | (go_at_call 74; refine (isASCII_yes s _ (by omega) HA.out).mono ?_; rintro e w1 ⟨rfl, hb1⟩)
      | (go_at_call 113; refine (lastSlash _ _ HSZ.out).mono ?_; rw [HI.out]; rintro e w' ⟨rfl, rfl⟩))
  go_ret3
  exact ⟨hb1, .inr ⟨K5.out, rfl⟩⟩

set_option maxRecDepth 20000 in
set_option maxHeartbeats 1600000 in
theorem slashBad2 (s : ByteArray) (w : World) (h100 : 100 < s.size) (hs : s.size ≤ 2147483647) (hA : Asc s) (hc : s.size ≤ 156) (hc2 : (bt s (s.size - 1) == 47) = true) (i : Int) (hi : Lib.lastIndexByte (s.extract 0 (s.size - 1)) 47 = i) (k1 : -1 ≤ i) (k3 : i < s.size) (k4 : ((s.size : Int) - i - 1 == 0) = false) (k5 : ∀ j, ¬ Sp s j) (c1 : 0 < i) (c2 : 100 < (s.size : Int) - i - 1) :
    Calls Tryz.prog 75 #[.string s] w (Parted s w) := by
  have hb := get_bt s
  have HA := Lib.hid hA
  clear hA
  have hsz : (s.extract 0 (s.size - 1)).size < 4611686018427387904 := by rw [ByteArray.size_extract]; omega
  have HI := Lib.hid hi
  have HSZ := Lib.hid hsz
  have K5 := Lib.hid k5
  clear hi hsz k5
  go_enter Tryz.func75, Tryz.ntmps75
  go_wp2_with (first
      | (go_at_call 74; refine (isASCII_yes s _ (by omega) HA.out).mono ?_; rintro e w1 ⟨rfl, hb1⟩)
      | (go_at_call 113; refine (lastSlash _ _ HSZ.out).mono ?_; rw [HI.out]; rintro e w' ⟨rfl, rfl⟩))
  go_ret3
  exact ⟨hb1, .inr ⟨K5.out, rfl⟩⟩

set_option maxRecDepth 20000 in
set_option maxHeartbeats 1600000 in
theorem slashGood (s : ByteArray) (w : World) (h100 : 100 < s.size) (hs : s.size ≤ 2147483647) (hA : Asc s) (hc : s.size ≤ 156) (hc2 : (bt s (s.size - 1) == 47) = true) (j : Nat) (hi : Lib.lastIndexByte (s.extract 0 (s.size - 1)) 47 = (j : Int)) (k3 : j < s.size) (k2 : (j : Int) ≤ 155) (k4 : ((s.size : Int) - j - 1 == 0) = false) (k5 : Sp s j) (c1 : 0 < (j : Int)) (c2 : (s.size : Int) - j - 1 ≤ 100) :
    Calls Tryz.prog 75 #[.string s] w (Parted s w) := by
  have hb := get_bt s
  have HA := Lib.hid hA
  clear hA
  have hsz : (s.extract 0 (s.size - 1)).size < 4611686018427387904 := by rw [ByteArray.size_extract]; omega
  have HI := Lib.hid hi
  have HSZ := Lib.hid hsz
  have K5 := Lib.hid k5
  clear hi hsz k5
  go_enter Tryz.func75, Tryz.ntmps75
  go_wp2_with (first
      | (go_at_call 74; refine (isASCII_yes s _ (by omega) HA.out).mono ?_; rintro e w1 ⟨rfl, hb1⟩)
      | (go_at_call 113; refine (lastSlash _ _ HSZ.out).mono ?_; rw [HI.out]; rintro e w' ⟨rfl, rfl⟩))
  have hw1 : IntKind.i64.wrap ((j : Int) + 1) = (j : Int) + 1 := IntWalk.i64_in _ (by omega)
  have hw2 : ((j : Int) + 1).toNat = j + 1 := by omega
  have hw3 : (0 : Int) ≤ (j : Int) := by omega
  have hw4 : (j : Int) ≤ (s.size : Int) := by omega
  have hw5 : (0 : Int) ≤ (j : Int) + 1 := by omega
  have hw6 : (j : Int) + 1 ≤ (s.size : Int) := by omega
  have hw7 : j ≤ s.size := by omega
  go_region_held3 (fun _ => True) (trivial) (fail)
  go_wp2
  go_ret3
  exact ⟨hb1.drew, .inl ⟨j, K5.out, rfl⟩⟩

set_option maxRecDepth 20000 in
set_option maxHeartbeats 1600000 in
theorem flatBad1 (s : ByteArray) (w : World) (h100 : 100 < s.size) (hs : s.size ≤ 2147483647) (hA : Asc s) (hc : s.size ≤ 156) (hc2 : (bt s (s.size - 1) == 47) = false) (i : Int) (hi : Lib.lastIndexByte (s.extract 0 (s.size)) 47 = i) (k1 : -1 ≤ i) (k3 : i < s.size) (k5 : ∀ j, ¬ Sp s j) (c1 : i ≤ 0) :
    Calls Tryz.prog 75 #[.string s] w (Parted s w) := by
  have hb := get_bt s
  have HA := Lib.hid hA
  clear hA
  have hsz : (s.extract 0 (s.size)).size < 4611686018427387904 := by rw [ByteArray.size_extract]; omega
  rw [extract_all] at hi hsz
  have HI := Lib.hid hi
  have HSZ := Lib.hid hsz
  have K5 := Lib.hid k5
  clear hi hsz k5
  go_enter Tryz.func75, Tryz.ntmps75
  go_wp2_with (first
      | (go_at_call 74; refine (isASCII_yes s _ (by omega) HA.out).mono ?_; rintro e w1 ⟨rfl, hb1⟩)
      | (go_at_call 113; refine (lastSlash _ _ HSZ.out).mono ?_; rw [HI.out]; rintro e w' ⟨rfl, rfl⟩))
  go_ret3
  exact ⟨hb1, .inr ⟨K5.out, rfl⟩⟩

set_option maxRecDepth 20000 in
set_option maxHeartbeats 1600000 in
theorem flatBad2 (s : ByteArray) (w : World) (h100 : 100 < s.size) (hs : s.size ≤ 2147483647) (hA : Asc s) (hc : s.size ≤ 156) (hc2 : (bt s (s.size - 1) == 47) = false) (i : Int) (hi : Lib.lastIndexByte (s.extract 0 (s.size)) 47 = i) (k1 : -1 ≤ i) (k3 : i < s.size) (k4 : ((s.size : Int) - i - 1 == 0) = false) (k5 : ∀ j, ¬ Sp s j) (c1 : 0 < i) (c2 : 100 < (s.size : Int) - i - 1) :
    Calls Tryz.prog 75 #[.string s] w (Parted s w) := by
  have hb := get_bt s
  have HA := Lib.hid hA
  clear hA
  have hsz : (s.extract 0 (s.size)).size < 4611686018427387904 := by rw [ByteArray.size_extract]; omega
  rw [extract_all] at hi hsz
  have HI := Lib.hid hi
  have HSZ := Lib.hid hsz
  have K5 := Lib.hid k5
  clear hi hsz k5
  go_enter Tryz.func75, Tryz.ntmps75
  go_wp2_with (first
      | (go_at_call 74; refine (isASCII_yes s _ (by omega) HA.out).mono ?_; rintro e w1 ⟨rfl, hb1⟩)
      | (go_at_call 113; refine (lastSlash _ _ HSZ.out).mono ?_; rw [HI.out]; rintro e w' ⟨rfl, rfl⟩))
  go_ret3
  exact ⟨hb1, .inr ⟨K5.out, rfl⟩⟩

set_option maxRecDepth 20000 in
set_option maxHeartbeats 1600000 in
theorem flatGood (s : ByteArray) (w : World) (h100 : 100 < s.size) (hs : s.size ≤ 2147483647) (hA : Asc s) (hc : s.size ≤ 156) (hc2 : (bt s (s.size - 1) == 47) = false) (j : Nat) (hi : Lib.lastIndexByte (s.extract 0 (s.size)) 47 = (j : Int)) (k3 : j < s.size) (k2 : (j : Int) ≤ 155) (k4 : ((s.size : Int) - j - 1 == 0) = false) (k5 : Sp s j) (c1 : 0 < (j : Int)) (c2 : (s.size : Int) - j - 1 ≤ 100) :
    Calls Tryz.prog 75 #[.string s] w (Parted s w) := by
  have hb := get_bt s
  have HA := Lib.hid hA
  clear hA
  have hsz : (s.extract 0 (s.size)).size < 4611686018427387904 := by rw [ByteArray.size_extract]; omega
  rw [extract_all] at hi hsz
  have HI := Lib.hid hi
  have HSZ := Lib.hid hsz
  have K5 := Lib.hid k5
  clear hi hsz k5
  go_enter Tryz.func75, Tryz.ntmps75
  go_wp2_with (first
      | (go_at_call 74; refine (isASCII_yes s _ (by omega) HA.out).mono ?_; rintro e w1 ⟨rfl, hb1⟩)
      | (go_at_call 113; refine (lastSlash _ _ HSZ.out).mono ?_; rw [HI.out]; rintro e w' ⟨rfl, rfl⟩))
  have hw1 : IntKind.i64.wrap ((j : Int) + 1) = (j : Int) + 1 := IntWalk.i64_in _ (by omega)
  have hw2 : ((j : Int) + 1).toNat = j + 1 := by omega
  have hw3 : (0 : Int) ≤ (j : Int) := by omega
  have hw4 : (j : Int) ≤ (s.size : Int) := by omega
  have hw5 : (0 : Int) ≤ (j : Int) + 1 := by omega
  have hw6 : (j : Int) + 1 ≤ (s.size : Int) := by omega
  have hw7 : j ≤ s.size := by omega
  go_region_held3 (fun _ => True) (trivial) (fail)
  go_wp2
  go_ret3
  exact ⟨hb1.drew, .inl ⟨j, K5.out, rfl⟩⟩

theorem splitUSTAR (s : ByteArray) (w : World) (h100 : 100 < s.size) (hs : s.size ≤ 2147483647) (hA : Asc s) :
    Calls Tryz.prog 75 #[.string s] w (Parted s w) := by
  have hcase : (156 < s.size) ∨ (s.size ≤ 156 ∧ bt s (s.size - 1) = 47) ∨ (s.size ≤ 156 ∧ bt s (s.size - 1) ≠ 47) := by omega
  rcases hcase with hc | ⟨hc, hc2⟩ | ⟨hc, hc2⟩
  · obtain ⟨i, hi, k1, k2, k3, k4, k5, k6⟩ := last_cases s (156) h100 (.inl ⟨hc, rfl⟩)
    by_cases c1 : i ≤ 0
    · exact longBad1 s w h100 hs hA hc i hi k1 k3 (k5 (.inl c1)) c1
    have k4' : ((s.size : Int) - i - 1 == 0) = false := by rw [beq_eq_false_iff_ne]; exact k4
    by_cases c2 : 100 < (s.size : Int) - i - 1
    · exact longBad2 s w h100 hs hA hc i hi k1 k3 k4' (k5 (.inr c2)) (by omega) c2
    obtain ⟨j, rfl⟩ : ∃ j : Nat, i = j := ⟨i.toNat, by omega⟩
    exact longGood s w h100 hs hA hc j hi (by omega) k2 k4' (k6 (by omega) (by omega)) (by omega) (by omega)
  · obtain ⟨i, hi, k1, k2, k3, k4, k5, k6⟩ := last_cases s (s.size - 1) h100 (.inr ⟨hc, .inl ⟨hc2, rfl⟩⟩)
    by_cases c1 : i ≤ 0
    · exact slashBad1 s w h100 hs hA hc (by rw [hc2]; rfl) i hi k1 k3 (k5 (.inl c1)) c1
    have k4' : ((s.size : Int) - i - 1 == 0) = false := by rw [beq_eq_false_iff_ne]; exact k4
    by_cases c2 : 100 < (s.size : Int) - i - 1
    · exact slashBad2 s w h100 hs hA hc (by rw [hc2]; rfl) i hi k1 k3 k4' (k5 (.inr c2)) (by omega) c2
    obtain ⟨j, rfl⟩ : ∃ j : Nat, i = j := ⟨i.toNat, by omega⟩
    exact slashGood s w h100 hs hA hc (by rw [hc2]; rfl) j hi (by omega) k2 k4' (k6 (by omega) (by omega)) (by omega) (by omega)
  · obtain ⟨i, hi, k1, k2, k3, k4, k5, k6⟩ := last_cases s (s.size) h100 (.inr ⟨hc, .inr ⟨hc2, rfl⟩⟩)
    by_cases c1 : i ≤ 0
    · exact flatBad1 s w h100 hs hA hc (by rw [beq_eq_false_iff_ne]; exact hc2) i hi k1 k3 (k5 (.inl c1)) c1
    have k4' : ((s.size : Int) - i - 1 == 0) = false := by rw [beq_eq_false_iff_ne]; exact k4
    by_cases c2 : 100 < (s.size : Int) - i - 1
    · exact flatBad2 s w h100 hs hA hc (by rw [beq_eq_false_iff_ne]; exact hc2) i hi k1 k3 k4' (k5 (.inr c2)) (by omega) c2
    obtain ⟨j, rfl⟩ : ∃ j : Nat, i = j := ⟨i.toNat, by omega⟩
    exact flatGood s w h100 hs hA hc (by rw [beq_eq_false_iff_ne]; exact hc2) j hi (by omega) k2 k4' (k6 (by omega) (by omega)) (by omega) (by omega)
end Go.Proofs.YtepeehjajhehfaaGreatDoor
namespace Go.Proofs.YtepeehjajhehfaaGreatDoor
open Go.RowKit Go.PlainAid
set_option linter.unusedVariables false

theorem next_high (w : World) (s : ByteArray) (pos : Nat) (h : pos < s.size) (ha : 128 ≤ bt s pos) : ∃ (r : Nat) (k2 : Nat), 128 ≤ r ∧ r ≤ 2147483647 ∧
    ∀ ty, (Instr.next (.pointer (some ⟨w.heap.size, 0, none⟩)) true ty).run Tryz.prog (w.iter s pos) = .ok (.tuple #[.bool true, .int .i64 pos, .int .i32 (r : Int)]) (w.iter s k2) := by
  have e : ((s[pos]'h).toNat : Int) = bt s pos := get_bt s pos h
  exact ⟨_, _, (decode_high s pos h (by omega)).1, decode_le s pos, fun ty => run_next_any w s pos ty h⟩
set_option maxRecDepth 20000 in
set_option maxHeartbeats 800000 in
theorem isASCII_no (s : ByteArray) (w : World) (hs : s.size ≤ 4611686018427387904) (hA : ¬ Asc s) :
    Calls Tryz.prog 74 #[.string s] w fun e w' => e = .returned (.bool false) ∧ Below w.heap.size w w' := by
  have HA := Lib.hid hA
  clear hA
  go_enter Tryz.func74, Tryz.ntmps74
  go_wp2
  go_loopg [7] (s.size + 1) (fun gq v wr => ∃ k : Nat, k ≤ s.size ∧ k + gq = s.size + 1 ∧ wr = w.iter s k ∧ Hid (∀ j, j < k → 0 < bt s j ∧ bt s j < 128))
  case atStart => exact ⟨0, by omega, by omega, rfl, Lib.hid (fun j hj => by omega)⟩
  case round =>
    obtain ⟨k, hk, hkg, rfl, hG⟩ := hrel
    have HKG := Lib.hid hkg
    clear hkg
    by_cases hlt : k < s.size
    · have b1 := bt_nonneg s k
      by_cases h1 : 128 ≤ bt s k
      · obtain ⟨r, k2, r1, r2, hn⟩ := next_high w s k hlt h1
        have r3 : (128 : Int) ≤ (r : Int) := by omega
        clear h1
        go_wp2
        go_ret
        exact ⟨rfl, (Below.refl _ _).alloc (Nat.le_refl _) _⟩
      have hn := next_bt w s k
      by_cases h0 : bt s k = 0
      · have t2 : (bt s k == 0) = true := by rw [h0]; rfl
        clear h0
        go_wp2
        go_ret
        exact ⟨rfl, (Below.refl _ _).alloc (Nat.le_refl _) _⟩
      · have t2 : (bt s k == 0) = false := by rw [beq_eq_false_iff_ne]; exact h0
        have HG2 : Hid (∀ j, j < k + 1 → 0 < bt s j ∧ bt s j < 128) := Lib.hid (all_succ hG.out (by omega))
        have b2 : bt s k < 128 := by omega
        clear h0 h1
        go_wp2
        go_roundg (gk - 1)
        case measure => have := HKG.out; omega
        case rel => exact ⟨k + 1, by omega, by have := HKG.out; omega, rfl, HG2⟩
    · exact absurd (fun j hj => hG.out j (by omega)) HA.out
theorem isASCII_any (s : ByteArray) (w : World) (hs : s.size ≤ 4611686018427387904) :
    Calls Tryz.prog 74 #[.string s] w fun e w' => e = .returned (.bool (asc s)) ∧ Below w.heap.size w w' := by
  by_cases h : Asc s
  · rw [asc_true h]
    exact isASCII_yes s w hs h
  · rw [asc_false h]
    exact isASCII_no s w hs h
/-- Is the path parted? -/
noncomputable def spl (s : ByteArray) : Bool := @decide (100 < s.size ∧ Asc s ∧ ∃ i, Sp s i) (Classical.propDecidable _)
theorem spl_true {s : ByteArray} (h : 100 < s.size ∧ Asc s ∧ ∃ i, Sp s i) : spl s = true := by simp [spl, h.1, h.2.1, h.2.2]
theorem spl_false {s : ByteArray} (h : ¬ (100 < s.size ∧ Asc s ∧ ∃ i, Sp s i)) : spl s = false := by unfold spl; exact @decide_eq_false _ (Classical.propDecidable _) h
theorem spl_iff (s : ByteArray) : spl s = true ↔ (100 < s.size ∧ Asc s ∧ ∃ i, Sp s i) := by
  constructor
  · intro h
    by_cases h2 : 100 < s.size ∧ Asc s ∧ ∃ i, Sp s i
    · exact h2
    · rw [spl_false h2] at h; cases h
  · exact spl_true
/-- What splitUSTARPath says of any string. -/
def SplP (s : ByteArray) (w : World) (e : Ending) (w' : World) : Prop := ∃ x y : ByteArray, e = .returned (.tuple #[.string x, .string y, .bool (spl s)]) ∧ Below w.heap.size w w'
set_option maxRecDepth 20000 in
set_option maxHeartbeats 800000 in
theorem splitAny (s : ByteArray) (w : World) (hs : s.size ≤ 2147483647) :
    Calls Tryz.prog 75 #[.string s] w (SplP s w) := by
  by_cases h100 : 100 < s.size
  · by_cases hA : Asc s
    · refine (splitUSTAR s w h100 hs hA).mono ?_
      rintro e w' ⟨hb, ⟨i, hi, rfl⟩ | ⟨hno, rfl⟩⟩
      · exact ⟨_, _, by rw [spl_true ⟨h100, hA, i, hi⟩], hb⟩
      · exact ⟨_, _, by rw [spl_false (fun h => by obtain ⟨i, hi⟩ := h.2.2; exact hno i hi)], hb⟩
    · have HS := Lib.hid (spl_false (s := s) (fun h => hA h.2.1))
      have HA := fun w => Lib.hid (isASCII_no s w (by omega) hA)
      have h1 : ¬ (s.size : Int) ≤ 100 := by omega
      clear hA
      go_enter Tryz.func75, Tryz.ntmps75
      go_wp2_with (go_at_call 74; refine (HA _).out.mono ?_; rintro e w' ⟨rfl, hb1⟩)
      go_ret3
      exact ⟨⟨#[]⟩, ⟨#[]⟩, by rw [HS.out]; rfl, hb1⟩
  · have HS := Lib.hid (spl_false (s := s) (fun h => h100 h.1))
    have h1 : (s.size : Int) ≤ 100 := by omega
    clear h100
    go_enter Tryz.func75, Tryz.ntmps75
    go_wp2
    go_ret3
    exact ⟨⟨#[]⟩, ⟨#[]⟩, by rw [HS.out]; rfl, Below.refl _ _⟩
end Go.Proofs.YtepeehjajhehfaaGreatDoor
namespace Go.Proofs.YtepeehjajhehfaaGreatDoor
open Go.RowKit Go.PlainAid Go.Maps Go.ChangeMaps Go.MapKept Go.WideMaps
set_option linter.unusedVariables false

theorem key_no {h : ByteArray} (h0 : ¬ h.size = 0) : ¬ h.toList = [] ∧ h.toList.isEmpty = false := by
  have e := Lib.size_eq h
  have : ¬ h.toList = [] := by rw [Lib.toList_data]; intro hh; rw [hh] at e; exact h0 e
  exact ⟨this, by cases hl : h.toList with
    | nil => exact absurd hl this
    | cons a b => rfl⟩
theorem bl_eq {a b : ByteArray} (h : a.data.toList = b.data.toList) : a = b := by
  apply ByteArray.ext
  exact Array.toList_inj.1 h
/-- What a closure leaves: some formats struck, the same text laid at most twice at its key. -/
def VerP (B : Nat) (hx : List Value) (pm : Option Nat) (R L : List (ByteArray × ByteArray)) (u p g : Bool) (key s : ByteArray) (w0 : World) (e : Ending) (w' : World) : Prop :=
  e = .returned (.tuple #[]) ∧ ∃ k, k ≤ 2 ∧ AF B hx pm R u p g (L ++ List.replicate k (key, s)) w0 w'
theorem snoc_rep {L : List (ByteArray × ByteArray)} {x : ByteArray × ByteArray} (k : Nat) : L ++ List.replicate k x ++ [x] = L ++ List.replicate (k + 1) x := by
  rw [List.append_assoc, List.replicate_succ']
set_option maxRecDepth 20000 in
set_option maxHeartbeats 6400000 in
theorem verifyStr {B : Nat} {hx : List Value} {pm : Option Nat} {R L : List (ByteArray × ByteArray)} {u p g : Bool} {w0 : World} (s nm key : ByteArray) (n : Int) (bn ba bl bp bk bs : Bool) (w : World)
    (S : AF B hx pm R u p g L w0 w) (hs : s.size ≤ 2147483647) (hn : nm.size ≤ 20) (hk0 : 1 ≤ key.size) (hk1 : key.size ≤ 20) (hL : L.length ≤ 1000000)
    (hbn : decide (fc 0 s < s.size) = bn) (hba : asc s = ba) (hbl : decide (n < (s.size : Int)) = bl) (hbp : (key.toList == [112, 97, 116, 104]) = bp) (hbk : (key.toList == [108, 105, 110, 107, 112, 97, 116, 104]) = bk) (hbs : spl s = bs) :
    Calls Tryz.prog 71 #[.string s, .int .i64 n, .string nm, .string key, .pointer (some ⟨B + 6, 0, none⟩), .pointer (some ⟨B + 1, 0, none⟩), .pointer (some ⟨B + 4, 0, none⟩), .pointer (some ⟨B + 5, 0, none⟩), .pointer (some ⟨B + 2, 0, none⟩), .pointer (some ⟨B, 0, none⟩)] w
      (VerP B hx pm R L (u && !((!ba || bl) && (!bp || !bs))) p (g && !(bn || (bl && !(bp || bk)))) key s w0) := by
  have HN : ∀ w, Hid (Calls Tryz.prog 72 #[.string s] w fun e w' => e = .returned (.bool bn) ∧ w = w') := fun w => Lib.hid (by have h := pubHasNUL s w (by omega); rw [hbn] at h; exact h)
  have HA : ∀ w, Hid (Calls Tryz.prog 74 #[.string s] w fun e w' => e = .returned (.bool ba) ∧ Below w.heap.size w w') := fun w => Lib.hid (by have h := isASCII_any s w (by omega); rw [hba] at h; exact h)
  have HP : ∀ w, Hid (Calls Tryz.prog 75 #[.string s] w fun e w' => ∃ x y : ByteArray, e = .returned (.tuple #[.string x, .string y, .bool bs]) ∧ Below w.heap.size w w') := fun w => Lib.hid (by have h := splitAny s w hs; unfold SplP at h; rw [hbs] at h; exact h)
  have HS := Lib.hid S
  have k18 : (⟨#[71, 78, 85, 32, 99, 97, 110, 110, 111, 116, 32, 101, 110, 99, 111, 100, 101, 32]⟩ : ByteArray).size = 18 := rfl
  have k20 : (⟨#[85, 83, 84, 65, 82, 32, 99, 97, 110, 110, 111, 116, 32, 101, 110, 99, 111, 100, 101, 32]⟩ : ByteArray).size = 20 := rfl
  have n1 : 18 + nm.size ≤ 9223372036854775807 := by omega
  have n2 : 20 + nm.size ≤ 9223372036854775807 := by omega
  have HKEY := Lib.hid (keyOf_string_mk Tryz.underlying9 (s := key) (by unfold maxLen; omega))
  have HVAL := Lib.hid (plainElem_string (H := Unit) Tryz.underlying9 (s := s) (by unfold maxLen; omega))
  have HLL := Lib.hid hL
  obtain ⟨ke1, ke2⟩ := key_no (h := key) (by omega)
  obtain ⟨uF, huF⟩ : ∃ x, (u && !((!ba || bl) && (!bp || !bs))) = x := ⟨_, rfl⟩
  obtain ⟨gF, hgF⟩ : ∃ x, (g && !(bn || (bl && !(bp || bk)))) = x := ⟨_, rfl⟩
  have HUF := Lib.hid huF
  have HGF := Lib.hid hgF
  rw [huF, hgF]
  clear S hbn hba hbs hL huF hgF
  go_enter Tryz.func71, Tryz.ntmps71
  go_upto_region 1 with fail
  go_cut [15] (fun v wx => v = .bool (bp || bk) ∧ Hid (w = wx))
  case first =>
    cases bp
    · cases bk
      · go_wp2_with fail
        go_meet
        case rel => exact ⟨rfl, Lib.hid rfl⟩
      · go_wp2_with fail
        go_meet
        case rel => exact ⟨rfl, Lib.hid rfl⟩
    · go_wp2_with fail
      go_meet
      case rel => exact ⟨rfl, Lib.hid rfl⟩
  case rest =>
    obtain ⟨rfl, hw1⟩ := hcut
    obtain rfl := hw1.out
    clear hw1
    go_upto_region 2 with fail
    go_cut [40] (fun v wx => v = .bool (bn || (bl && !(bp || bk))) ∧ Hid (w = wx))
    case first =>
      cases bn
      · cases bl
        · go_wp2_with (go_at_call 72; refine (HN _).out.mono ?_; rintro e w' ⟨rfl, rfl⟩)
          go_meet
          case rel => exact ⟨rfl, Lib.hid rfl⟩
        · go_wp2_with (go_at_call 72; refine (HN _).out.mono ?_; rintro e w' ⟨rfl, rfl⟩)
          go_meet
          case rel => exact ⟨by cases bp <;> cases bk <;> rfl, Lib.hid rfl⟩
      · go_wp2_with (go_at_call 72; refine (HN _).out.mono ?_; rintro e w' ⟨rfl, rfl⟩)
        go_meet
        case rel => exact ⟨rfl, Lib.hid rfl⟩
    case rest =>
      obtain ⟨rfl, hw1⟩ := hcut
      obtain rfl := hw1.out
      clear hw1 HN
      obtain ⟨b, hb⟩ : ∃ b, (bn || (bl && !(bp || bk))) = b := ⟨_, rfl⟩
      have HB := Lib.hid hb
      rw [hb]
      clear hb
      go_upto_if 40 with fail
      go_cut [] (fun wx => Hid (AF B hx pm R u p (g && !b) L w0 wx))
      case first =>
        cases b
        · go_wp2_with fail
          go_meet
          case rel => rw [Bool.not_false, Bool.and_true]; exact HS
        · obtain ⟨x6, c6, f6⟩ := HS.out.c6
          go_wp2_with fail
          refine (notGnu (B + 1) u p g _ (HS.out.w6 _).c1.1 (HS.out.w6 _).c1.2).mono ?_
          rintro e w' ⟨rfl, hw9⟩
          have HS2 := Lib.hid ((HS.out.w6 (⟨#[71, 78, 85, 32, 99, 97, 110, 110, 111, 116, 32, 101, 110, 99, 111, 100, 101, 32]⟩ ++ nm)).fset u p false)
          rw [hw9] at HS2
          clear hw9 c6 f6
          go_wp2_with fail
          go_meet
          case rel => rw [Bool.not_true, Bool.and_false]; exact HS2
      case rest =>
        have HS1 := hcut
        clear hcut HS
        obtain ⟨g2, hg2⟩ : ∃ g2, (g && !b) = g2 := ⟨_, rfl⟩
        have HG2 := Lib.hid hg2
        rw [hg2] at HS1
        clear hg2
        go_upto_region 5 with fail
        go_cut [49] (fun v wx => v = .bool (!ba || bl) ∧ Hid (AF B hx pm R u p g2 L w0 wx))
        case first =>
          cases ba
          · go_wp2_with (go_at_call 74; refine (HA _).out.mono ?_; rintro e w' ⟨rfl, hb1⟩; have HS2 := Lib.hid (HS1.out.below hb1); clear hb1)
            go_meet
            case rel => exact ⟨rfl, HS2⟩
          · go_wp2_with (go_at_call 74; refine (HA _).out.mono ?_; rintro e w' ⟨rfl, hb1⟩; have HS2 := Lib.hid (HS1.out.below hb1); clear hb1)
            go_meet
            case rel => exact ⟨rfl, HS2⟩
        case rest =>
          obtain ⟨rfl, HS3⟩ := hcut
          clear HS1 HA
          obtain ⟨b2, hb2⟩ : ∃ b2, (!ba || bl) = b2 := ⟨_, rfl⟩
          have HB2 := Lib.hid hb2
          rw [hb2]
          clear hb2
          go_upto_if 49 with fail
          go_cut [] (fun wx => ∃ k, k ≤ 1 ∧ Hid (AF B hx pm R (u && !(b2 && (!bp || !bs))) p g2 (L ++ List.replicate k (key, s)) w0 wx))
          case first =>
            cases b2
            · go_wp2_with fail
              go_meet
              case rel => exact ⟨0, by omega, by rw [Bool.false_and, Bool.not_false, Bool.and_true, List.replicate_zero, List.append_nil]; exact HS3⟩
            · cases bp
              · go_wp2_with (go_at_call 75; refine (HP _).out.mono ?_; rintro e w' ⟨x, y, rfl, hb1⟩; have HS4 := Lib.hid (HS3.out.below hb1); obtain ⟨x4, c4, f4⟩ := HS4.out.c4; clear hb1)
                refine (notUstar (B + 1) u p g2 _ (HS4.out.w4 _).c1.1 (HS4.out.w4 _).c1.2).mono ?_
                rintro e w' ⟨rfl, hw9⟩
                have HS5 := Lib.hid ((HS4.out.w4 (⟨#[85, 83, 84, 65, 82, 32, 99, 97, 110, 110, 111, 116, 32, 101, 110, 99, 111, 100, 101, 32]⟩ ++ nm)).fset false p g2)
                rw [hw9] at HS5
                obtain ⟨c2, f2⟩ := HS5.out.c2
                clear hw9 c4 f4
                go_wp2_with (at_mapUpdate; refine wpList_mapUpdate_own _ rfl _ _ _ 72 rfl 9 9 strKeyed Tryz.underlying72 _ (B + 3) L.length _ rfl HS5.out.ow (by unfold maxLen; have := HLL.out; omega) _ _ _ rfl rfl HKEY.out _ [] HVAL.out ?_; intro w6 ho6 hg6; have HS6 := Lib.hid (HS5.out.upd (L' := L ++ [(key, s)]) hg6 (by rw [mapOf_snoc, List.length_append]; exact ho6)); clear ho6 hg6)
                go_meet
                case rel => exact ⟨1, by omega, by rw [Bool.not_false, Bool.true_or, Bool.true_and, Bool.not_true, Bool.and_false]; exact HS6⟩
              · cases bs
                · go_wp2_with (go_at_call 75; refine (HP _).out.mono ?_; rintro e w' ⟨x, y, rfl, hb1⟩; have HS4 := Lib.hid (HS3.out.below hb1); obtain ⟨x4, c4, f4⟩ := HS4.out.c4; clear hb1)
                  refine (notUstar (B + 1) u p g2 _ (HS4.out.w4 _).c1.1 (HS4.out.w4 _).c1.2).mono ?_
                  rintro e w' ⟨rfl, hw9⟩
                  have HS5 := Lib.hid ((HS4.out.w4 (⟨#[85, 83, 84, 65, 82, 32, 99, 97, 110, 110, 111, 116, 32, 101, 110, 99, 111, 100, 101, 32]⟩ ++ nm)).fset false p g2)
                  rw [hw9] at HS5
                  obtain ⟨c2, f2⟩ := HS5.out.c2
                  clear hw9 c4 f4
                  go_wp2_with (at_mapUpdate; refine wpList_mapUpdate_own _ rfl _ _ _ 72 rfl 9 9 strKeyed Tryz.underlying72 _ (B + 3) L.length _ rfl HS5.out.ow (by unfold maxLen; have := HLL.out; omega) _ _ _ rfl rfl HKEY.out _ [] HVAL.out ?_; intro w6 ho6 hg6; have HS6 := Lib.hid (HS5.out.upd (L' := L ++ [(key, s)]) hg6 (by rw [mapOf_snoc, List.length_append]; exact ho6)); clear ho6 hg6)
                  go_meet
                  case rel => exact ⟨1, by omega, by rw [Bool.not_false, Bool.or_true, Bool.true_and, Bool.not_true, Bool.and_false]; exact HS6⟩
                · go_wp2_with (first
                    | (go_at_call 75; refine (HP _).out.mono ?_; rintro e w' ⟨x, y, rfl, hb1⟩; have HS4 := Lib.hid (HS3.out.below hb1); obtain ⟨c2, f2⟩ := HS4.out.c2; clear hb1)
                    | (at_mapUpdate; refine wpList_mapUpdate_own _ rfl _ _ _ 72 rfl 9 9 strKeyed Tryz.underlying72 _ (B + 3) L.length _ rfl HS4.out.ow (by unfold maxLen; have := HLL.out; omega) _ _ _ rfl rfl HKEY.out _ [] HVAL.out ?_; intro w6 ho6 hg6; have HS6 := Lib.hid (HS4.out.upd (L' := L ++ [(key, s)]) hg6 (by rw [mapOf_snoc, List.length_append]; exact ho6)); clear ho6 hg6))
                  go_meet
                  case rel => exact ⟨1, by omega, by rw [Bool.not_true, Bool.or_self, Bool.and_false, Bool.not_false, Bool.and_true]; exact HS6⟩
          case rest =>
            obtain ⟨k, hk, HS4⟩ := hcut
            clear HS3 HP
            obtain ⟨u2, hu2⟩ : ∃ u2, (u && !(b2 && (!bp || !bs))) = u2 := ⟨_, rfl⟩
            have HU2 := Lib.hid hu2
            rw [hu2] at HS4
            obtain ⟨L2, hL2⟩ : ∃ L2, L ++ List.replicate k (key, s) = L2 := ⟨_, rfl⟩
            have HL2 := Lib.hid hL2
            have HLN : Hid (L2.length ≤ 1000001) := Lib.hid (by rw [← hL2, List.length_append, List.length_replicate]; have := HLL.out; omega)
            rw [hL2] at HS4
            clear hu2 hL2
            have c18 := HS4.out.c18
            rcases HS4.out.hr with ⟨hpm, hR⟩ | ⟨q, nn, hpm, hq, ho⟩
            · rw [hpm] at c18
              have HPM := Lib.hid hpm
              clear hR hpm
              go_wp2_with (at_lookup; refine wpList_lookup_nil_okstr _ rfl _ _ 72 rfl 9 9 strKeyed Tryz.underlying72 (zeroStr _) rfl _ _ rfl HKEY.out ?_)
              refine bodyPost_end (results_none rfl _ _ _) rfl ?_
              exact ⟨rfl, k, by omega, by rw [← HUF.out, ← HGF.out, HB.out, HB2.out, HG2.out, HU2.out, HL2.out]; exact HS4.out⟩
            · rw [hpm] at c18
              have HO := Lib.hid ho
              have HPM := Lib.hid hpm
              clear ho hpm
              go_upto_region 16 with (at_lookup; refine wpList_lookup_own_okstr _ rfl _ _ 72 rfl 9 9 strKeyed Tryz.underlying72 Tryz.underlying9 (zeroStr _) q nn _ rfl HO.out _ _ rfl HKEY.out ?_; intro s2 ok hok hat hs2; clear hok hat)
              obtain ⟨be, hbe⟩ : ∃ be, (s2.toList == s.toList) = be := ⟨_, rfl⟩
              have HBE := Lib.hid hbe
              obtain ⟨c2, f2⟩ := HS4.out.c2
              cases ok
              · clear hbe
                go_wp2_with fail
                refine bodyPost_end (results_none rfl _ _ _) rfl ?_
                exact ⟨rfl, k, by omega, by rw [← HUF.out, ← HGF.out, HB.out, HB2.out, HG2.out, HU2.out, HL2.out]; exact HS4.out⟩
              · cases be
                · go_wp2_with fail
                  refine bodyPost_end (results_none rfl _ _ _) rfl ?_
                  exact ⟨rfl, k, by omega, by rw [← HUF.out, ← HGF.out, HB.out, HB2.out, HG2.out, HU2.out, HL2.out]; exact HS4.out⟩
                · have he : s2 = s := bl_eq (by
                    have := beq_iff_eq.1 hbe
                    rwa [Lib.toList_data, Lib.toList_data] at this)
                  clear hbe HBE
                  subst he
                  have hbe : (s2.toList == s2.toList) = true := by simp
                  go_wp2_with (at_mapUpdate; refine wpList_mapUpdate_own _ rfl _ _ _ 72 rfl 9 9 strKeyed Tryz.underlying72 _ (B + 3) L2.length _ rfl HS4.out.ow (by unfold maxLen; have := HLN.out; omega) _ _ _ rfl rfl HKEY.out _ [] HVAL.out ?_; intro w6 ho6 hg6; have HS6 := Lib.hid (HS4.out.upd (L' := L2 ++ [(key, s2)]) hg6 (by rw [mapOf_snoc, List.length_append]; exact ho6)); clear ho6 hg6)
                  refine bodyPost_end (results_none rfl _ _ _) rfl ?_
                  exact ⟨rfl, k + 1, by omega, by rw [← HUF.out, ← HGF.out, HB.out, HB2.out, HG2.out, HU2.out, ← snoc_rep, HL2.out]; exact HS6.out⟩
end Go.Proofs.YtepeehjajhehfaaGreatDoor
namespace Go.Proofs.YtepeehjajhehfaaGreatDoor
open Go.RowKit Go.PlainAid Go.Maps Go.ChangeMaps Go.MapKept Go.WideMaps
set_option linter.unusedVariables false

/-- What the second closure leaves: as the first; at the empty key it lays only what the records have there. -/
def VerN (B : Nat) (hx : List Value) (pm : Option Nat) (R L : List (ByteArray × ByteArray)) (u p g : Bool) (key s : ByteArray) (be : Bool) (w0 : World) (e : Ending) (w' : World) : Prop :=
  e = .returned (.tuple #[]) ∧ ∃ k, k ≤ 2 ∧ (be = true → k = 0 ∨ (Maps.has (mapOf R) (.string key.data.toList) = true ∧ (mapOf R).atKey (.string key.data.toList) (.lit (.string [])) = .lit (.string s.data.toList))) ∧ AF B hx pm R u p g (L ++ List.replicate k (key, s)) w0 w'
set_option maxRecDepth 20000 in
set_option maxHeartbeats 6400000 in
theorem verifyNum {B : Nat} {hx : List Value} {pm : Option Nat} {R L : List (ByteArray × ByteArray)} {u p g : Bool} {w0 : World} (n sz : Int) (nm key T : ByteArray) (bo bb be : Bool) (w : World)
    (S : AF B hx pm R u p g L w0 w) (hn : nm.size ≤ 20) (hk1 : key.size ≤ 20) (hT : T.size ≤ 1000) (hL : L.length ≤ 1000000) (hbe : key.toList.isEmpty = be) (hbe2 : (key.toList = []) ↔ be = true)
    (HO : ∀ w, Calls Tryz.prog 78 #[.int .i64 sz, .int .i64 n] w fun e w' => e = .returned (.bool bo) ∧ w = w')
    (HB : ∀ w, Calls Tryz.prog 77 #[.int .i64 sz, .int .i64 n] w fun e w' => e = .returned (.bool bb) ∧ w = w')
    (HF : ∀ w, Below B w0 w → Calls Tryz.prog 79 #[.int .i64 n, .int .i64 10] w fun e w' => e = .returned (.string T) ∧ Below w.heap.size w w') :
    Calls Tryz.prog 76 #[.int .i64 n, .int .i64 sz, .string nm, .string key, .pointer (some ⟨B + 6, 0, none⟩), .pointer (some ⟨B + 1, 0, none⟩), .pointer (some ⟨B + 4, 0, none⟩), .pointer (some ⟨B + 5, 0, none⟩), .pointer (some ⟨B + 2, 0, none⟩), .pointer (some ⟨B, 0, none⟩)] w
      (VerN B hx pm R L (u && bo) (p && (bo || !be)) (g && bb) key T be w0) := by
  have HO' := fun w => Lib.hid (HO w)
  have HB' := fun w => Lib.hid (HB w)
  have HF' := fun w h => Lib.hid (HF w h)
  have HS := Lib.hid S
  have k18 : (⟨#[71, 78, 85, 32, 99, 97, 110, 110, 111, 116, 32, 101, 110, 99, 111, 100, 101, 32]⟩ : ByteArray).size = 18 := rfl
  have k19 : (⟨#[80, 65, 88, 32, 99, 97, 110, 110, 111, 116, 32, 101, 110, 99, 111, 100, 101, 32]⟩ : ByteArray).size = 18 := rfl
  have k20 : (⟨#[85, 83, 84, 65, 82, 32, 99, 97, 110, 110, 111, 116, 32, 101, 110, 99, 111, 100, 101, 32]⟩ : ByteArray).size = 20 := rfl
  have n1 : 18 + nm.size ≤ 9223372036854775807 := by omega
  have n2 : 20 + nm.size ≤ 9223372036854775807 := by omega
  have HKEY := Lib.hid (keyOf_string_mk Tryz.underlying9 (s := key) (by unfold maxLen; omega))
  have HVAL := Lib.hid (plainElem_string (H := Unit) Tryz.underlying9 (s := T) (by unfold maxLen; omega))
  have HLL := Lib.hid hL
  obtain ⟨uF, huF⟩ : ∃ x, (u && bo) = x := ⟨_, rfl⟩
  obtain ⟨pF, hpF⟩ : ∃ x, (p && (bo || !be)) = x := ⟨_, rfl⟩
  obtain ⟨gF, hgF⟩ : ∃ x, (g && bb) = x := ⟨_, rfl⟩
  have HUF := Lib.hid huF
  have HPF := Lib.hid hpF
  have HGF := Lib.hid hgF
  rw [huF, hpF, hgF]
  clear S hL huF hpF hgF HO HB HF
  go_enter Tryz.func76, Tryz.ntmps76
  go_upto_if 19 with (go_at_call 77; refine (HB' _).out.mono ?_; rintro e w' ⟨rfl, rfl⟩)
  go_cut [] (fun wx => Hid (AF B hx pm R u p (g && bb) L w0 wx))
  case first =>
    cases bb
    · obtain ⟨x6, c6, f6⟩ := HS.out.c6
      go_wp2_with fail
      refine (notGnu (B + 1) u p g _ (HS.out.w6 _).c1.1 (HS.out.w6 _).c1.2).mono ?_
      rintro e w' ⟨rfl, hw9⟩
      have HS2 := Lib.hid ((HS.out.w6 (⟨#[71, 78, 85, 32, 99, 97, 110, 110, 111, 116, 32, 101, 110, 99, 111, 100, 101, 32]⟩ ++ nm)).fset u p false)
      rw [hw9] at HS2
      clear hw9 c6 f6
      go_wp2_with fail
      go_meet
      case rel => rw [Bool.and_false]; exact HS2
    · go_wp2_with fail
      go_meet
      case rel => rw [Bool.and_true]; exact HS
  case rest =>
    have HS1 := hcut
    clear hcut HS HB'
    obtain ⟨g2, hg2⟩ : ∃ g2, (g && bb) = g2 := ⟨_, rfl⟩
    have HG2 := Lib.hid hg2
    rw [hg2] at HS1
    clear hg2
    go_upto_if 26 with (go_at_call 78; refine (HO' _).out.mono ?_; rintro e w' ⟨rfl, rfl⟩)
    go_cut [] (fun wx => ∃ k, k ≤ 1 ∧ Hid (be = true → k = 0) ∧ Hid (AF B hx pm R (u && bo) (p && (bo || !be)) g2 (L ++ List.replicate k (key, T)) w0 wx))
    case first =>
      cases bo
      · obtain ⟨x4, c4, f4⟩ := HS1.out.c4
        go_wp2_with fail
        refine (notUstar (B + 1) u p g2 _ (HS1.out.w4 _).c1.1 (HS1.out.w4 _).c1.2).mono ?_
        rintro e w' ⟨rfl, hw9⟩
        have HS2 := Lib.hid ((HS1.out.w4 (⟨#[85, 83, 84, 65, 82, 32, 99, 97, 110, 110, 111, 116, 32, 101, 110, 99, 111, 100, 101, 32]⟩ ++ nm)).fset false p g2)
        rw [hw9] at HS2
        clear hw9 c4 f4
        cases be
        · have q1 : ¬ (key.toList = []) := fun h => by have := hbe2.1 h; cases this
          clear hbe2
          obtain ⟨c2, f2⟩ := HS2.out.c2
          have d2 := HS2.out.drew.c2.1
          go_wp2_with fail
          go_region_held3 (fun w' => w'.cell? ⟨B + 2, 0, none⟩ = some (.map (some (B + 3)))) (first | assumption | exact d2 | exact HS5.out.c2.1 | exact HS6.out.c2.1)
            ((go_at_call 79; refine (HF' _ HS2.out.drew.bel).out.mono ?_; rintro e w5 ⟨rfl, hb5⟩; have HS5 := Lib.hid (HS2.out.drew.below hb5); obtain ⟨w6, hrun6, ho6, hg6⟩ := HS5.out.ow.update strKeyed Tryz.underlying72 (by unfold maxLen; have := HLL.out; omega) HKEY.out HVAL.out; have HS6 := Lib.hid (HS5.out.upd (L' := L ++ [(key, T)]) hg6 (by rw [mapOf_snoc, List.length_append]; exact ho6)); clear ho6 hg6 hb5))
          go_wp2_with fail
          go_meet
          case rel => exact ⟨1, by omega, Lib.hid (fun h => by cases h), by rw [Bool.not_false, Bool.or_true, Bool.and_true, Bool.and_false]; exact HS6⟩
        · have q1 : key.toList = [] := hbe2.2 rfl
          clear hbe2
          obtain ⟨x5, c5, f5⟩ := HS2.out.c5
          go_wp2_with fail
          refine (notPax (B + 1) false p g2 _ (HS2.out.w5 _).c1.1 (HS2.out.w5 _).c1.2).mono ?_
          rintro e w' ⟨rfl, hw9⟩
          have HS3 := Lib.hid ((HS2.out.w5 (⟨#[80, 65, 88, 32, 99, 97, 110, 110, 111, 116, 32, 101, 110, 99, 111, 100, 101, 32]⟩ ++ nm)).fset false false g2)
          rw [hw9] at HS3
          clear hw9 c5 f5
          go_wp2_with fail
          go_meet
          case rel => exact ⟨0, by omega, Lib.hid (fun _ => rfl), by rw [Bool.not_true, Bool.or_false, Bool.and_false, Bool.and_false, List.replicate_zero, List.append_nil]; exact HS3⟩
      · go_wp2_with fail
        go_meet
        case rel => exact ⟨0, by omega, Lib.hid (fun _ => rfl), by rw [Bool.true_or, Bool.and_true, Bool.and_true, List.replicate_zero, List.append_nil]; exact HS1⟩
    case rest =>
      obtain ⟨k, hk, HK0, HS4⟩ := hcut
      clear HS1 HO'
      obtain ⟨u2, hu2⟩ : ∃ u2, (u && bo) = u2 := ⟨_, rfl⟩
      have HU2 := Lib.hid hu2
      obtain ⟨p2, hp2⟩ : ∃ p2, (p && (bo || !be)) = p2 := ⟨_, rfl⟩
      have HP2 := Lib.hid hp2
      rw [hu2, hp2] at HS4
      obtain ⟨L2, hL2⟩ : ∃ L2, L ++ List.replicate k (key, T) = L2 := ⟨_, rfl⟩
      have HL2 := Lib.hid hL2
      have HLN : Hid (L2.length ≤ 1000001) := Lib.hid (by rw [← hL2, List.length_append, List.length_replicate]; have := HLL.out; omega)
      rw [hL2] at HS4
      clear hu2 hp2 hL2 hbe hbe2
      have c18 := HS4.out.c18
      rcases HS4.out.hr with ⟨hpm, hR⟩ | ⟨q, nn, hpm, hq, ho⟩
      · rw [hpm] at c18
        have HPM := Lib.hid hpm
        clear hR hpm
        go_wp2_with (at_lookup; refine wpList_lookup_nil_okstr _ rfl _ _ 72 rfl 9 9 strKeyed Tryz.underlying72 (zeroStr _) rfl _ _ rfl HKEY.out ?_)
        refine bodyPost_end (results_none rfl _ _ _) rfl ?_
        exact ⟨rfl, k, by omega, fun h => .inl (HK0.out h), by rw [← HUF.out, ← HPF.out, ← HGF.out, HG2.out, HU2.out, HP2.out, HL2.out]; exact HS4.out⟩
      · rw [hpm] at c18
        have HO := Lib.hid ho
        have HPM := Lib.hid hpm
        clear ho hpm
        go_upto_region 11 with (at_lookup; refine wpList_lookup_own_okstr _ rfl _ _ 72 rfl 9 9 strKeyed Tryz.underlying72 Tryz.underlying9 (zeroStr _) q nn _ rfl HO.out _ _ rfl HKEY.out ?_; intro s2 ok hok hat hs2; have HOKT := Lib.hid (And.intro hok hat); clear hok hat)
        obtain ⟨be, hbe⟩ : ∃ be, (s2.toList == T.toList) = be := ⟨_, rfl⟩
        have HBE := Lib.hid hbe
        cases ok
        · clear hbe
          go_wp2_with fail
          refine bodyPost_end (results_none rfl _ _ _) rfl ?_
          exact ⟨rfl, k, by omega, fun h => .inl (HK0.out h), by rw [← HUF.out, ← HPF.out, ← HGF.out, HG2.out, HU2.out, HP2.out, HL2.out]; exact HS4.out⟩
        · cases be
          · go_wp2_with (go_at_call 79; refine (HF' _ HS4.out.bel).out.mono ?_; rintro e w5 ⟨rfl, hb5⟩; have HS5 := Lib.hid (HS4.out.below hb5); clear hb5)
            refine bodyPost_end (results_none rfl _ _ _) rfl ?_
            exact ⟨rfl, k, by omega, fun h => .inl (HK0.out h), by rw [← HUF.out, ← HPF.out, ← HGF.out, HG2.out, HU2.out, HP2.out, HL2.out]; exact HS5.out⟩
          · have he : s2 = T := bl_eq (by
              have := beq_iff_eq.1 hbe
              rwa [Lib.toList_data, Lib.toList_data] at this)
            clear hbe HBE
            subst he
            have hbe : (s2.toList == s2.toList) = true := by simp
            go_wp2_with (first
              | (go_at_call 79; refine (HF' _ HS4.out.bel).out.mono ?_; rintro e w5 ⟨rfl, hb5⟩; have HS5 := Lib.hid (HS4.out.below hb5); obtain ⟨c2, f2⟩ := HS5.out.c2; clear hb5)
              | (at_mapUpdate; refine wpList_mapUpdate_own _ rfl _ _ _ 72 rfl 9 9 strKeyed Tryz.underlying72 _ (B + 3) L2.length _ rfl HS5.out.ow (by unfold maxLen; have := HLN.out; omega) _ _ _ rfl rfl HKEY.out _ [] HVAL.out ?_; intro w6 ho6 hg6; have HS6 := Lib.hid (HS5.out.upd (L' := L2 ++ [(key, s2)]) hg6 (by rw [mapOf_snoc, List.length_append]; exact ho6)); clear ho6 hg6))
            refine bodyPost_end (results_none rfl _ _ _) rfl ?_
            exact ⟨rfl, k + 1, by omega, fun _ => .inr ⟨HOKT.out.1.symm, HOKT.out.2⟩, by rw [← HUF.out, ← HPF.out, ← HGF.out, HG2.out, HU2.out, HP2.out, ← snoc_rep, HL2.out]; exact HS6.out⟩
end Go.Proofs.YtepeehjajhehfaaGreatDoor
namespace Go.Proofs.YtepeehjajhehfaaGreatDoor
open Go.RowKit Go.PlainAid Go.Maps Go.ChangeMaps Go.MapKept Go.WideMaps
set_option linter.unusedVariables false

/-- The state, and a boxed time besides. -/
structure AT (X : Nat) (tn tx : Int) (B : Nat) (hx : List Value) (pm : Option Nat) (R : List (ByteArray × ByteArray)) (u p g : Bool) (L : List (ByteArray × ByteArray)) (w0 w : World) : Prop where
  af : AF B hx pm R u p g L w0 w
  bx : Blk w X 71 [.int .u64 tn, .int .i64 tx]
  gt : B + 7 < X
section
variable {X : Nat} {tn tx : Int} {B : Nat} {hx : List Value} {pm : Option Nat} {R L : List (ByteArray × ByteArray)} {u p g : Bool} {w0 w w' : World}
theorem AT.below (s : AT X tn tx B hx pm R u p g L w0 w) (hb : Below w.heap.size w w') : AT X tn tx B hx pm R u p g L w0 w' := ⟨s.af.below hb, s.bx.below hb s.bx.lt, s.gt⟩
theorem AT.drew (s : AT X tn tx B hx pm R u p g L w0 w) : AT X tn tx B hx pm R u p g L w0 w.drew := s.below ((Below.refl _ _).drew)
theorem AT.fset (s : AT X tn tx B hx pm R u p g L w0 w) (u' p' g' : Bool) : AT X tn tx B hx pm R u' p' g' L w0 (w.setCell ⟨B + 1, 0, none⟩ (.int .i64 (fmtV u' p' g'))) := ⟨s.af.fset u' p' g', s.bx.far (by have := s.gt; show X ≠ B + 1; omega) _, s.gt⟩
theorem AT.w4 (s : AT X tn tx B hx pm R u p g L w0 w) (x : ByteArray) : AT X tn tx B hx pm R u p g L w0 (w.setCell ⟨B + 4, 0, none⟩ (.string x)) := ⟨s.af.w4 x, s.bx.far (by have := s.gt; show X ≠ B + 4; omega) _, s.gt⟩
theorem AT.w6 (s : AT X tn tx B hx pm R u p g L w0 w) (x : ByteArray) : AT X tn tx B hx pm R u p g L w0 (w.setCell ⟨B + 6, 0, none⟩ (.string x)) := ⟨s.af.w6 x, s.bx.far (by have := s.gt; show X ≠ B + 6; omega) _, s.gt⟩
theorem AT.w7 (s : AT X tn tx B hx pm R u p g L w0 w) (x : Bool) : AT X tn tx B hx pm R u p g L w0 (w.setCell ⟨B + 7, 0, none⟩ (.bool x)) := ⟨s.af.w7 x, s.bx.far (by have := s.gt; show X ≠ B + 7; omega) _, s.gt⟩
theorem AT.upd {L' : List (ByteArray × ByteArray)} (s : AT X tn tx B hx pm R u p g L w0 w) (hg : w.grownBy w' (some (B + 3))) (ho : w'.ownsMap (H := Unit) Tryz.prog 9 (plainElem Tryz.prog 9) (B + 3) L'.length (mapOf L')) : AT X tn tx B hx pm R u p g L' w0 w' := ⟨s.af.upd hg ho, s.bx.grown hg (by have := s.gt; intro h; injection h with h; omega), s.gt⟩
theorem AT.x0 (s : AT X tn tx B hx pm R u p g L w0 w) : w.cell? ⟨X, 0, none⟩ = some (.int .u64 tn) := s.bx.cell 0
theorem AT.x1 (s : AT X tn tx B hx pm R u p g L w0 w) : w.cell? ⟨X, 1, none⟩ = some (.int .i64 tx) := s.bx.cell 1
theorem AF.box (s : AF B hx pm R u p g L w0 w) (tn tx : Int) : AT w.heap.size tn tx B hx pm R u p g L w0 (w.alloc (.cells #[.int .u64 tn, .int .i64 tx] 71)) := ⟨s.alloc _, Blk.new w _ [_, _], s.lt⟩
end
/-- What verifyTime leaves. -/
def VerT (B : Nat) (hx : List Value) (pm : Option Nat) (R L : List (ByteArray × ByteArray)) (u p g : Bool) (key : ByteArray) (PT : ByteArray → Prop) (bz : Bool) (w0 : World) (e : Ending) (w' : World) : Prop :=
  e = .returned (.tuple #[]) ∧ ∃ E : List (ByteArray × ByteArray), E.length ≤ 2 ∧ (∀ x ∈ E, x.1 = key ∧ PT x.2) ∧ (bz = true → E = []) ∧ AF B hx pm R u p g (L ++ E) w0 w'
theorem keyOk {key : ByteArray} (hk1 : key.size ≤ 1000) : keyOf Tryz.prog 9 (.string key) = some (.string key.data.toList) := keyOf_string_mk Tryz.underlying9 (s := key) (by unfold maxLen; omega)
theorem valOk {T : ByteArray} (hT : T.size ≤ 4000000000) : plainElem (H := Unit) Tryz.prog 9 (.string T) = some (.lit (.string T.data.toList), []) := plainElem_string (H := Unit) Tryz.underlying9 (s := T) (by unfold maxLen; omega)
set_option maxRecDepth 20000 in
set_option maxHeartbeats 6400000 in
theorem verifyTim {B : Nat} {hx : List Value} {pm : Option Nat} {R L : List (ByteArray × ByteArray)} {u p g : Bool} {w0 : World} (tn tx sec sz : Int) (nm key : ByteArray) (PT : ByteArray → Prop) (bz bo bb bm bs : Bool) (w : World)
    (S : AF B hx pm R u p g L w0 w) (hn : nm.size ≤ 20) (hk0 : 1 ≤ key.size) (hk1 : key.size ≤ 20) (hPT : ∀ T, PT T → T.size ≤ 1000) (hL : L.length ≤ 1000000)
    (hbm : (key.toList == [109, 116, 105, 109, 101]) = bm) (hs1 : (tn != 0) = bs)
    (HZ : ∀ w, Calls Tryz.prog 81 #[.agg #[.int .u64 tn, .int .i64 tx]] w fun e w' => e = .returned (.bool bz) ∧ Below w.heap.size w w')
    (HU : ∀ w, Calls Tryz.prog 82 #[.agg #[.int .u64 tn, .int .i64 tx]] w fun e w' => e = .returned (.int .i64 sec) ∧ Below w.heap.size w w')
    (HNs : ∀ w, Calls Tryz.prog 83 #[.agg #[.int .u64 tn, .int .i64 tx]] w fun e w' => e = .returned (.int .i64 tn) ∧ Below w.heap.size w w')
    (HO : ∀ w, Calls Tryz.prog 78 #[.int .i64 sz, .int .i64 sec] w fun e w' => e = .returned (.bool bo) ∧ w = w')
    (HB : ∀ w, Calls Tryz.prog 77 #[.int .i64 sz, .int .i64 sec] w fun e w' => e = .returned (.bool bb) ∧ w = w')
    (HF : ∀ w, Below B w0 w → Calls Tryz.prog 84 #[.agg #[.int .u64 tn, .int .i64 tx]] w fun e w' => (∃ T, PT T ∧ e = .returned (.string T)) ∧ Below w.heap.size w w') :
    Calls Tryz.prog 80 #[.agg #[.int .u64 tn, .int .i64 tx], .int .i64 sz, .string nm, .string key, .pointer (some ⟨B + 6, 0, none⟩), .pointer (some ⟨B + 1, 0, none⟩), .pointer (some ⟨B + 4, 0, none⟩), .pointer (some ⟨B + 7, 0, none⟩), .pointer (some ⟨B + 5, 0, none⟩), .pointer (some ⟨B + 2, 0, none⟩), .pointer (some ⟨B, 0, none⟩)] w
      (VerT B hx pm R L (u && (bz || (bm && bo))) p (g && (bz || bb)) key PT bz w0) := by
  have HZ' := fun w => Lib.hid (HZ w)
  have HU' := fun w => Lib.hid (HU w)
  have HNs' := fun w => Lib.hid (HNs w)
  have HO' := fun w => Lib.hid (HO w)
  have HB' := fun w => Lib.hid (HB w)
  have HF' := fun w h => Lib.hid (HF w h)
  have HPT := Lib.hid hPT
  have HS := Lib.hid (S.box tn tx)
  have k18 : (⟨#[71, 78, 85, 32, 99, 97, 110, 110, 111, 116, 32, 101, 110, 99, 111, 100, 101, 32]⟩ : ByteArray).size = 18 := rfl
  have k20 : (⟨#[85, 83, 84, 65, 82, 32, 99, 97, 110, 110, 111, 116, 32, 101, 110, 99, 111, 100, 101, 32]⟩ : ByteArray).size = 20 := rfl
  have n1 : 18 + nm.size ≤ 9223372036854775807 := by omega
  have n2 : 20 + nm.size ≤ 9223372036854775807 := by omega
  have HKEY := Lib.hid (keyOk (key := key) (by omega))
  have HLL := Lib.hid hL
  obtain ⟨ke1, ke2⟩ := key_no (h := key) (by omega)
  obtain ⟨uF, huF⟩ : ∃ x, (u && (bz || (bm && bo))) = x := ⟨_, rfl⟩
  obtain ⟨gF, hgF⟩ : ∃ x, (g && (bz || bb)) = x := ⟨_, rfl⟩
  have HUF := Lib.hid huF
  have HGF := Lib.hid hgF
  rw [huF, hgF]
  have c0 := HS.out.x0
  have c1 := HS.out.x1
  obtain ⟨X, hX⟩ : ∃ X, X = w.heap.size := ⟨_, rfl⟩
  have HX := Lib.hid hX
  clear S hL huF hgF HO HB HF HZ HU HNs hPT hX
  cases bz with
  | true =>
    go_enter Tryz.func80, Tryz.ntmps80
    go_wp2_with (go_at_call 81; refine (HZ' _).out.mono ?_; rintro e w' ⟨rfl, hb1⟩; have HS1 := Lib.hid (HS.out.below hb1); clear hb1)
    refine bodyPost_end (results_none rfl _ _ _) rfl ?_
    exact ⟨rfl, [], by simp, by simp, fun _ => rfl, by rw [← HUF.out, ← HGF.out, Bool.true_or, Bool.true_or, Bool.and_true, Bool.and_true, List.append_nil]; exact HS1.out.af⟩
  | false =>
    rw [Bool.false_or] at HUF HGF
    go_enter Tryz.func80, Tryz.ntmps80
    go_upto_if 26 with (first
      | (go_at_call 81; refine (HZ' _).out.mono ?_; rintro e w1 ⟨rfl, hb1⟩; have HS1 := Lib.hid (HS.out.below hb1); have d0 := HS1.out.x0; have d1 := HS1.out.x1; clear hb1)
      | (go_at_call 82; refine (HU' _).out.mono ?_; rintro e w2 ⟨rfl, hb2⟩; have HS2 := Lib.hid (HS1.out.below hb2); clear hb2)
      | (go_at_call 77; refine (HB' _).out.mono ?_; rintro e w3 ⟨rfl, rfl⟩))
    go_cut [] (fun wx => Hid (AT w.heap.size tn tx B hx pm R u p (g && bb) L w0 wx))
    case first =>
      cases bb
      · obtain ⟨x6, c6, f6⟩ := HS2.out.af.c6
        go_wp2_with fail
        refine (notGnu (B + 1) u p g _ (HS2.out.w6 _).af.c1.1 (HS2.out.w6 _).af.c1.2).mono ?_
        rintro e w' ⟨rfl, hw9⟩
        have HS3 := Lib.hid ((HS2.out.w6 (⟨#[71, 78, 85, 32, 99, 97, 110, 110, 111, 116, 32, 101, 110, 99, 111, 100, 101, 32]⟩ ++ nm)).fset u p false)
        rw [hw9] at HS3
        clear hw9 c6 f6
        go_wp2_with fail
        go_meet
        case rel => rw [Bool.and_false]; exact HS3
      · go_wp2_with fail
        go_meet
        case rel => rw [Bool.and_true]; exact HS2
    case rest =>
      have HS3 := hcut
      clear hcut HS HS1 HS2 HB' HZ' c0 c1 d0 d1
      obtain ⟨g2, hg2⟩ : ∃ g2, (g && bb) = g2 := ⟨_, rfl⟩
      have HG2 := Lib.hid hg2
      rw [hg2] at HS3
      have d0 := HS3.out.x0
      have d1 := HS3.out.x1
      clear hg2
      go_upto_region 7 with (first
        | (go_at_call 82; refine (HU' _).out.mono ?_; rintro e w4 ⟨rfl, hb2⟩; have HS4 := Lib.hid (HS3.out.below hb2); clear hb2)
        | (go_at_call 78; refine (HO' _).out.mono ?_; rintro e w3 ⟨rfl, rfl⟩))
      go_cut [44] (fun v wx => v = .bool (!(bm && bo)) ∧ Hid (AT w.heap.size tn tx B hx pm R u p g2 L w0 wx))
      case first =>
        cases bm
        · go_wp2_with fail
          go_meet
          case rel => exact ⟨rfl, HS4⟩
        · cases bo
          · go_wp2_with fail
            go_meet
            case rel => exact ⟨rfl, HS4⟩
          · go_wp2_with fail
            go_meet
            case rel => exact ⟨rfl, HS4⟩
      case rest =>
        obtain ⟨rfl, HS5⟩ := hcut
        clear HS3 HS4 d0 d1 HU' HO'
        obtain ⟨b2, hb2⟩ : ∃ b2, (!(bm && bo)) = b2 := ⟨_, rfl⟩
        have HB2 := Lib.hid hb2
        rw [hb2]
        clear hb2
        go_upto_if 44 with fail
        go_cut [] (fun wx => Hid (AT w.heap.size tn tx B hx pm R (u && !b2) p g2 L w0 wx))
        case first =>
          cases b2
          · go_wp2_with fail
            go_meet
            case rel => rw [Bool.not_false, Bool.and_true]; exact HS5
          · obtain ⟨x4, c4, f4⟩ := HS5.out.af.c4
            go_wp2_with fail
            refine (notUstar (B + 1) u p g2 _ (HS5.out.w4 _).af.c1.1 (HS5.out.w4 _).af.c1.2).mono ?_
            rintro e w' ⟨rfl, hw9⟩
            have HS6 := Lib.hid ((HS5.out.w4 (⟨#[85, 83, 84, 65, 82, 32, 99, 97, 110, 110, 111, 116, 32, 101, 110, 99, 111, 100, 101, 32]⟩ ++ nm)).fset false p g2)
            rw [hw9] at HS6
            clear hw9 c4 f4
            go_wp2_with fail
            go_meet
            case rel => rw [Bool.not_true, Bool.and_false]; exact HS6
        case rest =>
          have HS6 := hcut
          clear hcut HS5
          obtain ⟨u2, hu2⟩ : ∃ u2, (u && !b2) = u2 := ⟨_, rfl⟩
          have HU2 := Lib.hid hu2
          rw [hu2] at HS6
          have d0 := HS6.out.x0
          have d1 := HS6.out.x1
          clear hu2
          go_upto_region 11 with (go_at_call 83; refine (HNs' _).out.mono ?_; rintro e w7 ⟨rfl, hb2⟩; have HS7 := Lib.hid (HS6.out.below hb2); clear hb2)
          go_cut [59] (fun v wx => v = .bool (!bm || !bo || bs) ∧ Hid (AT w.heap.size tn tx B hx pm R u2 p g2 L w0 wx))
          case first =>
            cases bm
            · go_wp2_with fail
              go_meet
              case rel => exact ⟨rfl, HS7⟩
            · cases bo
              · go_wp2_with fail
                go_meet
                case rel => exact ⟨rfl, HS7⟩
              · go_wp2_with fail
                go_meet
                case rel => exact ⟨rfl, HS7⟩
          case rest =>
            obtain ⟨rfl, HS8⟩ := hcut
            clear HS6 HS7 d0 d1 HNs'
            obtain ⟨b3, hb3⟩ : ∃ b3, (!bm || !bo || bs) = b3 := ⟨_, rfl⟩
            rw [hb3]
            clear hb3
            go_upto_if 59 with fail
            go_cut [] (fun wx => ∃ E : List (ByteArray × ByteArray), E.length ≤ 1 ∧ Hid (∀ x ∈ E, x.1 = key ∧ PT x.2) ∧ Hid (AT w.heap.size tn tx B hx pm R u2 p g2 (L ++ E) w0 wx))
            case first =>
              cases b3
              · go_wp2_with fail
                go_meet
                case rel => exact ⟨[], by simp, Lib.hid (by simp), by rw [List.append_nil]; exact HS8⟩
              · obtain ⟨x7, c7, f7⟩ := HS8.out.af.c7
                go_upto_region 13 with fail
                have HS9 := Lib.hid (HS8.out.w7 true)
                generalize wc.setCell ⟨B + 7, 0, none⟩ (.bool true) = w9 at HS9 ⊢
                clear c7 f7
                have d2 := HS9.out.drew.af.c2.1
                have d0 := HS9.out.drew.x0
                have d1 := HS9.out.drew.x1
                go_wp2_with fail
                go_region_held3 (fun w' => w'.cell? ⟨B + 2, 0, none⟩ = some (.map (some (B + 3))) ∧ w'.cell? ⟨w.heap.size, 0, none⟩ = some (.int .u64 tn) ∧ w'.cell? ⟨w.heap.size, 1, none⟩ = some (.int .i64 tx)) (first | exact ⟨d2, d0, d1⟩ | exact ⟨HS10.out.af.c2.1, HS10.out.x0, HS10.out.x1⟩ | exact ⟨HS11.out.af.c2.1, HS11.out.x0, HS11.out.x1⟩ | assumption)
                  ((go_at_call 84; refine (HF' _ HS9.out.drew.af.bel).out.mono ?_; rintro e w10 ⟨⟨T, hT, rfl⟩, hb5⟩; have HT := Lib.hid hT; have HS10 := Lib.hid (HS9.out.drew.below hb5); obtain ⟨w11, hrun6, ho6, hg6⟩ := HS10.out.af.ow.update strKeyed Tryz.underlying72 (by unfold maxLen; have := HLL.out; omega) HKEY.out (valOk (T := T) (by have := HPT.out T hT; omega)); have HS11 := Lib.hid (HS10.out.upd (L' := L ++ [(key, T)]) hg6 (by rw [mapOf_snoc, List.length_append]; exact ho6)); clear ho6 hg6 hb5 hT))
                go_wp2_with fail
                go_meet
                case rel => exact ⟨[(key, T)], by simp, Lib.hid (by intro x hx; rw [List.mem_singleton] at hx; subst hx; exact ⟨rfl, HT.out⟩), HS11⟩
            case rest =>
              obtain ⟨E, hE, HE, HS9⟩ := hcut
              clear HS8
              obtain ⟨L2, hL2⟩ : ∃ L2, L ++ E = L2 := ⟨_, rfl⟩
              have HL2 := Lib.hid hL2
              have HLN : Hid (L2.length ≤ 1000001) := Lib.hid (by rw [← hL2, List.length_append]; have := HLL.out; omega)
              rw [hL2] at HS9
              have HB2' : Hid ((bm && bo) = !b2) := Lib.hid (by rw [← HB2.out, Bool.not_not])
              clear hL2
              have c18 := HS9.out.af.c18
              have d0 := HS9.out.x0
              have d1 := HS9.out.x1
              rcases HS9.out.af.hr with ⟨hpm, hR⟩ | ⟨q, nn, hpm, hq, ho⟩
              · rw [hpm] at c18
                have HPM := Lib.hid hpm
                clear hR hpm
                go_wp2_with (at_lookup; refine wpList_lookup_nil_okstr _ rfl _ _ 72 rfl 9 9 strKeyed Tryz.underlying72 (zeroStr _) rfl _ _ rfl HKEY.out ?_)
                refine bodyPost_end (results_none rfl _ _ _) rfl ?_
                exact ⟨rfl, E, by omega, HE.out, (fun h => by cases h), by rw [← HUF.out, ← HGF.out, HB2'.out, HG2.out, HU2.out, HL2.out]; exact HS9.out.af⟩
              · rw [hpm] at c18
                have HO := Lib.hid ho
                have HPM := Lib.hid hpm
                clear ho hpm
                go_upto_region 18 with (at_lookup; refine wpList_lookup_own_okstr _ rfl _ _ 72 rfl 9 9 strKeyed Tryz.underlying72 Tryz.underlying9 (zeroStr _) q nn _ rfl HO.out _ _ rfl HKEY.out ?_; intro s2 ok hok hat hs2; clear hok hat)
                cases ok
                · go_wp2_with fail
                  refine bodyPost_end (results_none rfl _ _ _) rfl ?_
                  exact ⟨rfl, E, by omega, HE.out, (fun h => by cases h), by rw [← HUF.out, ← HGF.out, HB2'.out, HG2.out, HU2.out, HL2.out]; exact HS9.out.af⟩
                · go_upto_if 82 with (go_at_call 84; refine (HF' _ HS9.out.af.bel).out.mono ?_; rintro e w10 ⟨⟨T, hT, rfl⟩, hb5⟩; have HT := Lib.hid hT; have HS10 := Lib.hid (HS9.out.below hb5); obtain ⟨be, hbe⟩ : ∃ be, (s2.toList == T.toList) = be := ⟨_, rfl⟩; have HBE := Lib.hid hbe; clear hb5 hT)
                  cases be
                  · go_wp2_with fail
                    refine bodyPost_end (results_none rfl _ _ _) rfl ?_
                    exact ⟨rfl, E, by omega, HE.out, (fun h => by cases h), by rw [← HUF.out, ← HGF.out, HB2'.out, HG2.out, HU2.out, HL2.out]; exact HS10.out.af⟩
                  · have he : s2 = T := bl_eq (by
                      have := beq_iff_eq.1 HBE.out
                      rwa [Lib.toList_data, Lib.toList_data] at this)
                    subst he
                    obtain ⟨c2, f2⟩ := HS10.out.af.c2
                    go_wp2_with (at_mapUpdate; refine wpList_mapUpdate_own _ rfl _ _ _ 72 rfl 9 9 strKeyed Tryz.underlying72 _ (B + 3) L2.length _ rfl HS10.out.af.ow (by unfold maxLen; have := HLN.out; omega) _ _ _ rfl rfl HKEY.out _ [] (valOk (T := s2) (by have := HPT.out s2 HT.out; omega)) ?_; intro w6 ho6 hg6; have HS11 := Lib.hid (HS10.out.upd (L' := L2 ++ [(key, s2)]) hg6 (by rw [mapOf_snoc, List.length_append]; exact ho6)); clear ho6 hg6)
                    refine bodyPost_end (results_none rfl _ _ _) rfl ?_
                    exact ⟨rfl, E ++ [(key, s2)], by simp; omega, by
                      intro x hx
                      rw [List.mem_append, List.mem_singleton] at hx
                      rcases hx with hx | hx
                      · exact HE.out x hx
                      · subst hx; exact ⟨rfl, HT.out⟩, (fun h => by cases h), by rw [← HUF.out, ← HGF.out, HB2'.out, HG2.out, HU2.out, ← List.append_assoc, HL2.out]; exact HS11.out.af⟩
end Go.Proofs.YtepeehjajhehfaaGreatDoor
