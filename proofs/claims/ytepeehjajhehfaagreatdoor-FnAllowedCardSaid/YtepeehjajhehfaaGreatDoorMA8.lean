/- The three closures of allowedFormats with what they call; formatPAXTime at any second. spec.sparseKey. Records in the order of their keys: the table that a map of records is. Plain. Small contracts for allowedFormats: HasSuffix of a slash, HasPrefix of GNU.sparse., validPAXRecord told, look-ups and ranges at maps of strings. What allowedFormats answers: plain words; laws that its walk wants. -/
import Derived.Test.YtepeehjajhehfaaGreatDoorMA4
import Derived.Test.YtepeehjajhehfaaGreatDoorMA5
import Derived.Test.YtepeehjajhehfaaGreatDoorMA7
import Derived.Test.YtepeehjajhehfaaGreatDoorHdr
import Derived.Test.YtepeehjajhehfaaGreatDoorMA2
import Derived.Sort.KeysCollected
import Derived.Maps.Ext
import Derived.Maps.RangeWalk
import Derived.Great.BuildSlice
namespace Go.Proofs.YtepeehjajhehfaaGreatDoor
open Go.RowKit Go.PlainAid Go.Maps
set_option linter.unusedVariables false

/-- The seconds of a time. -/
def secOf (tx : Int) : Int := wrap64 (tx + -62135596800)
theorem secOf_rng (tx : Int) : -9223372036854775808 ≤ secOf tx ∧ secOf tx ≤ 9223372036854775807 := by unfold secOf wrap64; omega
theorem secOf_unx (s : Int) (h : -9223372036854775808 ≤ s ∧ s ≤ 9223372036854775807) : secOf (unx s) = s := back s h
/-- A text of a time. -/
def PTm (tn tx : Int) (T : ByteArray) : Prop := ∃ b W N P, TimText T b W N P ∧ P.length ≤ 9 ∧ T.size ≤ 100 ∧ secOf tx = secV b W N ∧ tn = nsV b N
theorem fmtAny (tn tx : Int) (h3 : 0 ≤ tn) (h4 : tn < 1000000000) (w : World) (hT : Tab w) :
    Calls Tryz.prog 84 #[.agg #[.int .u64 tn, .int .i64 tx]] w fun e w' => (∃ T, PTm tn tx T ∧ e = .returned (.string T)) ∧ Below w.heap.size w w' := by
  obtain ⟨h1, h2⟩ := secOf_rng tx
  have key : ∀ {b : Bool} {W N : Nat}, secOf tx = secV b W N → tn = nsV b N → Calls Tryz.prog 84 #[.agg #[.int .u64 tn, .int .i64 tx]] w (FmtT b W N w) → Calls Tryz.prog 84 #[.agg #[.int .u64 tn, .int .i64 tx]] w fun e w' => (∃ T, PTm tn tx T ∧ e = .returned (.string T)) ∧ Below w.heap.size w w' := by
    intro b W N e1 e2 H
    refine H.mono ?_
    rintro e w' ⟨⟨T, P, t1, t2, t3, rfl⟩, hb⟩
    exact ⟨⟨T, ⟨b, W, N, P, t1, t2, t3, e1, e2⟩, rfl⟩, hb⟩
  obtain ⟨sec, hsec⟩ : ∃ sec, secOf tx = sec := ⟨_, rfl⟩
  have hx : wrap64 (tx + -62135596800) = sec := hsec
  rw [hsec] at h1 h2 key
  by_cases hn : tn = 0
  · subst hn
    by_cases hs : 0 ≤ sec
    · exact key (b := false) (W := sec.toNat) (N := 0) (by unfold secV; rw [if_neg (by decide)]; omega) (by unfold nsV; rw [if_neg (by decide)]; rfl) (fmtT_whole tx sec false _ w hx h1 h2 (by rw [if_neg (by decide)]; omega) (fun h => by cases h) hT)
    · exact key (b := true) (W := (-sec).toNat) (N := 0) (by unfold secV; rw [if_pos rfl, if_pos rfl]; omega) (by unfold nsV; rw [if_pos rfl, if_pos rfl]) (fmtT_whole tx sec true _ w hx h1 h2 (by rw [if_pos rfl]; omega) (fun _ => by omega) hT)
  obtain ⟨k, rfl⟩ : ∃ k : Nat, tn = (k : Int) := ⟨tn.toNat, by omega⟩
  by_cases hs : 0 ≤ sec
  · exact key (b := false) (W := sec.toNat) (N := k) (by unfold secV; rw [if_neg (by decide)]; omega) (by unfold nsV; rw [if_neg (by decide)]) (fmtT_part tx sec k k _ false w hx h1 h2 (by omega) (by omega) (.inl ⟨rfl, by omega, rfl⟩) hT)
  · exact key (b := true) (W := (-sec - 1).toNat) (N := 1000000000 - k) (by unfold secV; rw [if_pos rfl, if_neg (by omega)]; omega) (by unfold nsV; rw [if_pos rfl, if_neg (by omega)]; omega) (fmtT_part tx sec k _ _ true w hx h1 h2 (by omega) (by omega) (.inr ⟨rfl, by omega, by omega⟩) hT)

/-- Which formats a text, a number, a time leaves. -/
noncomputable def uS (s : ByteArray) (n : Int) (bp : Bool) : Bool := !((!asc s || decide (n < (s.size : Int))) && (!bp || !spl s))
noncomputable def gS (s : ByteArray) (n : Int) (bq : Bool) : Bool := !(decide (fc 0 s < s.size) || (decide (n < (s.size : Int)) && !bq))
def uT (tn tx : Int) (bm : Bool) : Bool := izB tn tx || (bm && fitsO 11 (secOf tx))
def gT (tn tx : Int) : Bool := izB tn tx || fitsB 11 (secOf tx)
section
variable {B : Nat} {hx : List Value} {pm : Option Nat} {R L : List (ByteArray × ByteArray)} {u p g : Bool} {w0 : World}
theorem vStr (s nm key : ByteArray) (n : Int) (bp bk : Bool) (w : World) (S : AF B hx pm R u p g L w0 w) (hs : s.size ≤ 2147483647) (hn : nm.size ≤ 20) (hk0 : 1 ≤ key.size) (hk1 : key.size ≤ 20) (hL : L.length ≤ 1000000)
    (hbp : (key.toList == [112, 97, 116, 104]) = bp) (hbk : (key.toList == [108, 105, 110, 107, 112, 97, 116, 104]) = bk) :
    Calls Tryz.prog 71 #[.string s, .int .i64 n, .string nm, .string key, .pointer (some ⟨B + 6, 0, none⟩), .pointer (some ⟨B + 1, 0, none⟩), .pointer (some ⟨B + 4, 0, none⟩), .pointer (some ⟨B + 5, 0, none⟩), .pointer (some ⟨B + 2, 0, none⟩), .pointer (some ⟨B, 0, none⟩)] w
      (VerP B hx pm R L (u && uS s n bp) p (g && gS s n (bp || bk)) key s w0) :=
  verifyStr s nm key n _ _ _ bp bk _ w S hs hn hk0 hk1 hL rfl rfl rfl hbp hbk rfl
theorem vNum (n sz : Int) (j : Nat) (nm key : ByteArray) (be : Bool) (w : World) (S : AF B hx pm R u p g L w0 w) (hj : sz = (j : Int) + 2) (hj2 : j ≤ 19) (hn1 : -9223372036854775808 ≤ n ∧ n ≤ 9223372036854775807) (hn : nm.size ≤ 20) (hk1 : key.size ≤ 20) (hL : L.length ≤ 1000000)
    (hbe : key.toList.isEmpty = be) (hbe2 : (key.toList = []) ↔ be = true) (HT : ∀ w, Below B w0 w → Tab w) :
    Calls Tryz.prog 76 #[.int .i64 n, .int .i64 sz, .string nm, .string key, .pointer (some ⟨B + 6, 0, none⟩), .pointer (some ⟨B + 1, 0, none⟩), .pointer (some ⟨B + 4, 0, none⟩), .pointer (some ⟨B + 5, 0, none⟩), .pointer (some ⟨B + 2, 0, none⟩), .pointer (some ⟨B, 0, none⟩)] w
      (VerN B hx pm R L (u && fitsO (j + 1) n) (p && (fitsO (j + 1) n || !be)) (g && fitsB (j + 1) n) key (mkS (intL n)) be w0) :=
  verifyNum n sz nm key _ _ _ be w S hn hk1 (by have := intL_size n hn1.1 hn1.2; omega) hL hbe hbe2
    (fun w => fits8 (j + 1) sz n w (by omega) (by omega) (by omega) hn1.1 hn1.2) (fun w => fits256 j sz n w hj (by omega) hn1.1 hn1.2) (fun w hb => formatInt10 n w hn1.1 hn1.2 (HT w hb))
theorem vTim (tn tx : Int) (nm key : ByteArray) (bm : Bool) (w : World) (S : AF B hx pm R u p g L w0 w) (ht : 0 ≤ tn ∧ tn < 1000000000) (hn : nm.size ≤ 20) (hk0 : 1 ≤ key.size) (hk1 : key.size ≤ 20) (hL : L.length ≤ 1000000)
    (hbm : (key.toList == [109, 116, 105, 109, 101]) = bm) (HT : ∀ w, Below B w0 w → Tab w) :
    Calls Tryz.prog 80 #[.agg #[.int .u64 tn, .int .i64 tx], .int .i64 12, .string nm, .string key, .pointer (some ⟨B + 6, 0, none⟩), .pointer (some ⟨B + 1, 0, none⟩), .pointer (some ⟨B + 4, 0, none⟩), .pointer (some ⟨B + 7, 0, none⟩), .pointer (some ⟨B + 5, 0, none⟩), .pointer (some ⟨B + 2, 0, none⟩), .pointer (some ⟨B, 0, none⟩)] w
      (VerT B hx pm R L (u && uT tn tx bm) p (g && gT tn tx) key (PTm tn tx) (izB tn tx) w0) :=
  verifyTim tn tx (secOf tx) 12 nm key (PTm tn tx) (izB tn tx) _ _ bm _ w S hn hk0 hk1 (fun T hT => by obtain ⟨_, _, _, _, _, _, h3, _⟩ := hT; omega) hL hbm rfl
    (fun w => isZeroM tn tx w) (fun w => (unixM tn tx _ w ht.1 ht.2 rfl).mono (fun e w' h => ⟨h.1, by rw [h.2]; exact (Below.refl _ _).alloc (Nat.le_refl _) _⟩)) (fun w => (nanoM tn tx w ht.1 ht.2).mono (fun e w' h => ⟨h.1, by rw [h.2]; exact (Below.refl _ _).alloc (Nat.le_refl _) _⟩))
    (fun w => fits8 11 12 _ w (by omega) (by omega) (by omega) (secOf_rng tx).1 (secOf_rng tx).2) (fun w => fits256 10 12 _ w (by omega) (by omega) (secOf_rng tx).1 (secOf_rng tx).2) (fun w hb => fmtAny tn tx ht.1 ht.2 w (HT w hb))
end
theorem fe_step {P : ByteArray × ByteArray → Prop} {L : List (ByteArray × ByteArray)} {k n : Nat} {x : ByteArray × ByteArray} (h : L.length ≤ n ∧ ∀ y ∈ L, P y) (hk : k ≤ 2) (hx : P x) : (L ++ List.replicate k x).length ≤ n + 2 ∧ ∀ y ∈ L ++ List.replicate k x, P y := by
  refine ⟨by rw [List.length_append, List.length_replicate]; omega, fun y hy => ?_⟩
  rcases List.mem_append.1 hy with hy | hy
  · exact h.2 y hy
  · rw [List.eq_of_mem_replicate hy]; exact hx
theorem fe_stepz {P : ByteArray × ByteArray → Prop} {L : List (ByteArray × ByteArray)} {k n : Nat} {x : ByteArray × ByteArray} (h : L.length ≤ n ∧ ∀ y ∈ L, P y) (hk : k ≤ 2) (hx : k = 0 ∨ P x) : (L ++ List.replicate k x).length ≤ n + 2 ∧ ∀ y ∈ L ++ List.replicate k x, P y := by
  rcases hx with hx | hx
  · subst hx
    exact ⟨by rw [List.length_append, List.length_replicate]; omega, fun y hy => h.2 y (by simpa using hy)⟩
  · exact fe_step h hk hx
theorem fe_appz {P : ByteArray × ByteArray → Prop} {L E : List (ByteArray × ByteArray)} {n : Nat} {bz : Bool} (h : L.length ≤ n ∧ ∀ y ∈ L, P y) (hk : E.length ≤ 2) (hz : bz = true → E = []) (hx : bz = false → ∀ y ∈ E, P y) : (L ++ E).length ≤ n + 2 ∧ ∀ y ∈ L ++ E, P y := by
  cases bz with
  | true => rw [hz rfl, List.append_nil]; exact ⟨by omega, h.2⟩
  | false =>
    refine ⟨by rw [List.length_append]; omega, fun y hy => ?_⟩
    rcases List.mem_append.1 hy with hy | hy
    · exact h.2 y hy
    · exact hx rfl y hy
def kPath : ByteArray := ⟨#[112, 97, 116, 104]⟩
def kLink : ByteArray := ⟨#[108, 105, 110, 107, 112, 97, 116, 104]⟩
def kUn : ByteArray := ⟨#[117, 110, 97, 109, 101]⟩
def kGn : ByteArray := ⟨#[103, 110, 97, 109, 101]⟩
def kUid : ByteArray := ⟨#[117, 105, 100]⟩
def kGid : ByteArray := ⟨#[103, 105, 100]⟩
def kSize : ByteArray := ⟨#[115, 105, 122, 101]⟩
def kMt : ByteArray := ⟨#[109, 116, 105, 109, 101]⟩
def kAt : ByteArray := ⟨#[97, 116, 105, 109, 101]⟩
def kCt : ByteArray := ⟨#[99, 116, 105, 109, 101]⟩
def kNone : ByteArray := ⟨#[]⟩
/-- What the closures may lay into the records. -/
inductive FE (h : Hd) (mx an ax cn cx : Int) : ByteArray × ByteArray → Prop
  | name : FE h mx an ax cn cx (kPath, h.name)
  | link : FE h mx an ax cn cx (kLink, h.link)
  | un : FE h mx an ax cn cx (kUn, h.un)
  | gn : FE h mx an ax cn cx (kGn, h.gn)
  | uid : FE h mx an ax cn cx (kUid, mkS (intL h.uid))
  | gid : FE h mx an ax cn cx (kGid, mkS (intL h.gid))
  | size : FE h mx an ax cn cx (kSize, mkS (intL h.size))
  | mt (T : ByteArray) (hT : PTm h.mn mx T) (hz : izB h.mn mx = false) : FE h mx an ax cn cx (kMt, T)
  | at_ (T : ByteArray) (hT : PTm an ax T) (hz : izB an ax = false) : FE h mx an ax cn cx (kAt, T)
  | ct (T : ByteArray) (hT : PTm cn cx T) (hz : izB cn cx = false) : FE h mx an ax cn cx (kCt, T)
/-- The formats that the fields leave. -/
noncomputable def UF (h : Hd) (mx an ax cn cx : Int) : Bool :=
  true && uS h.name 100 true && uS h.link 100 false && uS h.un 32 false && uS h.gn 32 false && fitsO 7 h.mode && fitsO 7 h.uid && fitsO 7 h.gid && fitsO 11 h.size && fitsO 7 h.maj && fitsO 7 h.min && uT h.mn mx true && uT an ax false && uT cn cx false
def PF (h : Hd) : Bool :=
  true && (fitsO 7 h.mode || !true) && (fitsO 7 h.uid || !false) && (fitsO 7 h.gid || !false) && (fitsO 11 h.size || !false) && (fitsO 7 h.maj || !true) && (fitsO 7 h.min || !true)
noncomputable def GF (h : Hd) (mx an ax cn cx : Int) : Bool :=
  true && gS h.name 100 (true || false) && gS h.link 100 (false || true) && gS h.un 32 (false || false) && gS h.gn 32 (false || false) && fitsB 7 h.mode && fitsB 7 h.uid && fitsB 7 h.gid && fitsB 11 h.size && fitsB 7 h.maj && fitsB 7 h.min && gT h.mn mx && gT an ax && gT cn cx
/-- The state ahead of the closures' calls. -/
theorem AF.start {w w1 w2 w3 w4 w5 w6 w7 w8 w9 : World} {hx : List Value} {pm : Option Nat} {R : List (ByteArray × ByteArray)} {Z : Array Value} {T : TypeId}
    (e1 : w1 = w.alloc (.cells hx.toArray 75)) (e2 : w2 = w1.alloc (.cells #[.int .i64 14] 73)) (e3 : w3 = w2.alloc (.cells #[.map (some (w.heap.size + 3))] 72)) (e4 : w4 = w3.alloc (.map #[] 0))
    (e5 : w5 = w4.alloc (.cells #[.string ⟨#[]⟩] 9)) (e6 : w6 = w5.alloc (.cells #[.string ⟨#[]⟩] 9)) (e7 : w7 = w6.alloc (.cells #[.string ⟨#[]⟩] 9)) (e8 : w8 = w7.alloc (.cells #[.bool false] 4)) (e9 : w9 = w8.alloc (.cells Z T))
    (hp : hx[18]? = some (.map pm)) (hr : RMap w.heap.size pm R w) : AF w.heap.size hx pm R true true true [] w w9 := by
  have s1 : w1.heap.size = w.heap.size + 1 := by rw [e1]; simp
  have s2 : w2.heap.size = w.heap.size + 2 := by rw [e2]; simp; omega
  have s3 : w3.heap.size = w.heap.size + 3 := by rw [e3]; simp; omega
  have s4 : w4.heap.size = w.heap.size + 4 := by rw [e4]; simp; omega
  have s5 : w5.heap.size = w.heap.size + 5 := by rw [e5]; simp; omega
  have s6 : w6.heap.size = w.heap.size + 6 := by rw [e6]; simp; omega
  have s7 : w7.heap.size = w.heap.size + 7 := by rw [e7]; simp; omega
  have s8 : w8.heap.size = w.heap.size + 8 := by rw [e8]; simp; omega
  have b1 : Blk w1 w.heap.size 75 hx := by rw [e1]; exact Blk.new w _ hx
  have b2 : Blk w2 (w.heap.size + 1) 73 [.int .i64 14] := by rw [← s1, e2]; exact Blk.new w1 _ [_]
  have b3 : Blk w3 (w.heap.size + 2) 72 [.map (some (w.heap.size + 3))] := by rw [← s2, e3]; exact Blk.new w2 _ [_]
  have m4 : w4.ownsMap (H := Unit) Tryz.prog 9 (plainElem Tryz.prog 9) (w.heap.size + 3) 0 (mapOf []) := by rw [← s3, e4]; exact World.ownsMap_made w3 _ _ _
  have b5 : Blk w5 (w.heap.size + 4) 9 [.string ⟨#[]⟩] := by rw [← s4, e5]; exact Blk.new w4 _ [_]
  have b6 : Blk w6 (w.heap.size + 5) 9 [.string ⟨#[]⟩] := by rw [← s5, e6]; exact Blk.new w5 _ [_]
  have b7 : Blk w7 (w.heap.size + 6) 9 [.string ⟨#[]⟩] := by rw [← s6, e7]; exact Blk.new w6 _ [_]
  have b8 : Blk w8 (w.heap.size + 7) 4 [.bool false] := by rw [← s7, e8]; exact Blk.new w7 _ [_]
  have f9 : Far [] w8 w9 := by rw [e9]; exact (Far.refl _ _).alloc _
  have f8 : Far [] w7 w9 := Far.trans (by rw [e8]; exact (Far.refl _ _).alloc _) f9
  have f7 : Far [] w6 w9 := Far.trans (by rw [e7]; exact (Far.refl _ _).alloc _) f8
  have f6 : Far [] w5 w9 := Far.trans (by rw [e6]; exact (Far.refl _ _).alloc _) f7
  have f5 : Far [] w4 w9 := Far.trans (by rw [e5]; exact (Far.refl _ _).alloc _) f6
  have f4 : Far [] w3 w9 := Far.trans (by rw [e4]; exact (Far.refl _ _).alloc _) f5
  have f3 : Far [] w2 w9 := Far.trans (by rw [e3]; exact (Far.refl _ _).alloc _) f4
  have f2 : Far [] w1 w9 := Far.trans (by rw [e2]; exact (Far.refl _ _).alloc _) f3
  have f1 : Far [] w w9 := Far.trans (by rw [e1]; exact (Far.refl _ _).alloc _) f2
  exact ⟨f1.below (by simp) (Nat.le_refl _), b1.of_far f2 (by simp), hp, hr.far f1 (by simp), b2.of_far f3 (by simp), b3.of_far f4 (by simp), ownsMap_of_far m4 f5 (by simp), ⟨_, b5.of_far f6 (by simp)⟩, ⟨_, b6.of_far f7 (by simp)⟩, ⟨_, b7.of_far f8 (by simp)⟩, ⟨_, b8.of_far f9 (by simp)⟩⟩
end Go.Proofs.YtepeehjajhehfaaGreatDoor
namespace Go.Proofs.YtepeehjajhehfaaGreatDoor
open Go.RowKit Go.PlainAid
set_option linter.unusedVariables false

def gsp : List UInt8 := [71, 78, 85, 46, 115, 112, 97, 114, 115, 101, 46]
/-- Does a key begin with GNU.sparse.? -/
def spk (s : ByteArray) : Bool := decide (11 ≤ s.size) && ((s.extract 0 11).toList == gsp)
set_option maxRecDepth 20000 in
set_option maxHeartbeats 400000 in
theorem sparseKey_any (s : ByteArray) (b : Bool) (w : World) (hs : s.size ≤ 4611686018427387904) (HB : Hid (spk s = b)) :
    Calls Tryz.prog 43 #[.string s] w fun e w' => e = .returned (.bool b) ∧ w = w' := by
  by_cases h : 11 ≤ s.size
  · have h1 : (11 : Int) ≤ (s.size : Int) := by omega
    have HE : Hid (((s.extract 0 11).toList == gsp) = b) := Lib.hid (by have := HB.out; unfold spk at this; rw [decide_eq_true h, Bool.true_and] at this; exact this)
    have hq : ((s.extract 0 11).toList == [71, 78, 85, 46, 115, 112, 97, 114, 115, 101, 46]) = b := HE.out
    go_enter Tryz.func43, Tryz.ntmps43
    go_wp2
    go_ret
    exact ⟨rfl, rfl⟩
  · have h1 : ¬ (11 : Int) ≤ (s.size : Int) := by omega
    have HE : Hid (b = false) := Lib.hid (by have := HB.out; unfold spk at this; rw [decide_eq_false h, Bool.false_and] at this; exact this.symm)
    go_enter Tryz.func43, Tryz.ntmps43
    go_wp2
    go_ret
    exact ⟨by rw [HE.out]; rfl, rfl⟩
end Go.Proofs.YtepeehjajhehfaaGreatDoor
namespace Go.Proofs.YtepeehjajhehfaaGreatDoor
open Go.RowKit Go.PlainAid Go.Maps
set_option linter.unusedVariables false

def bl (a : ByteArray) : List UInt8 := a.data.toList
theorem bl_inj {a b : ByteArray} (h : bl a = bl b) : a = b := ba_ext h
def less (a b : ByteArray) : Bool := Op.bytesLess (bl a) (bl b)
/-- A record before the first one with a greater key. -/
def insT (r : ByteArray × ByteArray) : List (ByteArray × ByteArray) → List (ByteArray × ByteArray)
  | [] => [r]
  | x :: l => if less r.1 x.1 then r :: x :: l else x :: insT r l
/-- A record in the place of one of its key. -/
def putT (l : List (ByteArray × ByteArray)) (r : ByteArray × ByteArray) : List (ByteArray × ByteArray) := insT r (l.filter fun x => !(bl x.1 == bl r.1))
def tab (rs : List (ByteArray × ByteArray)) : List (ByteArray × ByteArray) := rs.foldl putT []
theorem tab_snoc (rs : List (ByteArray × ByteArray)) (r : ByteArray × ByteArray) : tab (rs ++ [r]) = putT (tab rs) r := by simp [tab]
def litE (x : ByteArray × ByteArray) : Lit × DataW Unit := (.string (bl x.1), .lit (.string (bl x.2)))
theorem before_less : ∀ (a b : List UInt8), bytesBefore a b = Op.bytesLess a b
  | [], [] => rfl
  | [], _ :: _ => rfl
  | _ :: _, [] => rfl
  | a :: r, b :: s => by
    rw [bytesBefore, Op.bytesLess, before_less r s]
theorem less_lt : ∀ (x y : List UInt8), Op.bytesLess x y = decide (x < y)
  | [], [] => by simp [Op.bytesLess]
  | _ :: _, [] => by simp [Op.bytesLess]
  | [], _ :: _ => by simp [Op.bytesLess]
  | a :: x, b :: y => by
    rw [Op.bytesLess, less_lt x y]
    simp only [List.cons_lt_cons_iff]
    by_cases h1 : a < b <;> by_cases h2 : a = b <;> by_cases h3 : x < y <;> simp [h1, h2, h3]
theorem insT_map (r : ByteArray × ByteArray) : ∀ l : List (ByteArray × ByteArray), DataW.insert (litE r) (l.map litE) = (insT r l).map litE
  | [] => rfl
  | x :: l => by
    rw [List.map_cons, DataW.insert, insT]
    have e : (litE r).1.before (litE x).1 = less r.1 x.1 := before_less _ _
    rw [e, insT_map r l]
    split <;> rfl
theorem put_map (l : List (ByteArray × ByteArray)) (r : ByteArray × ByteArray) : (DataW.map (l.map litE)).put (.string (bl r.1)) (.lit (.string (bl r.2))) = .map ((putT l r).map litE) := by
  show DataW.map (DataW.insert (litE r) ((l.map litE).filter fun p => !p.1.sameKey (.string (bl r.1)))) = _
  rw [List.filter_map]
  exact congrArg DataW.map (insT_map r _)
theorem tab_map (rs : List (ByteArray × ByteArray)) : mapOf rs = .map ((tab rs).map litE) := by
  have key : ∀ (rs l : List (ByteArray × ByteArray)), rs.foldl (fun d r => d.put (.string r.1.data.toList) (.lit (.string r.2.data.toList))) (.map (l.map litE)) = (.map ((rs.foldl putT l).map litE) : DataW Unit) := by
    intro rs
    induction rs with
    | nil => intro l; rfl
    | cons r rs ih =>
      intro l
      rw [List.foldl_cons, List.foldl_cons, ← ih]
      have hp := put_map l r
      unfold bl at hp
      rw [hp]
  exact key rs []
theorem mem_insT {r y : ByteArray × ByteArray} : ∀ {l : List (ByteArray × ByteArray)}, y ∈ insT r l ↔ y = r ∨ y ∈ l
  | [] => by simp [insT]
  | x :: l => by
    rw [insT]
    split
    · simp
    · rw [List.mem_cons, mem_insT, List.mem_cons]
      constructor
      · rintro (h | h | h)
        · exact .inr (.inl h)
        · exact .inl h
        · exact .inr (.inr h)
      · rintro (h | h | h)
        · exact .inr (.inl h)
        · exact .inl h
        · exact .inr (.inr h)
theorem less_trans {a b c : ByteArray} (h1 : less a b = true) (h2 : less b c = true) : less a c = true := by
  unfold less at *
  rw [← before_less] at *
  exact WideShapes.bytes_trans _ _ _ h1 h2
theorem less_irrefl (a : ByteArray) : less a a = false := by
  unfold less
  rw [← before_less]
  exact WideAt.bytes_irrefl _
theorem less_total {a b : ByteArray} (h : bl a ≠ bl b) (hn : less a b = false) : less b a = true := by
  unfold less at *
  rw [← before_less] at *
  rcases WideAt.bytes_total _ _ h with h1 | h1
  · rw [hn] at h1; cases h1
  · exact h1
def SortedT (l : List (ByteArray × ByteArray)) : Prop := l.Pairwise fun x y => less x.1 y.1 = true
theorem insT_sorted (r : ByteArray × ByteArray) : ∀ (l : List (ByteArray × ByteArray)), SortedT l → (∀ x ∈ l, bl x.1 ≠ bl r.1) → SortedT (insT r l)
  | [], _, _ => by simp [insT, SortedT]
  | x :: l, h, hn => by
    obtain ⟨h1, h2⟩ := List.pairwise_cons.1 h
    rw [insT]
    by_cases hl : less r.1 x.1 = true
    · rw [if_pos hl]
      refine List.pairwise_cons.2 ⟨fun y hy => ?_, h⟩
      rcases List.mem_cons.1 hy with rfl | hy
      · exact hl
      · exact less_trans hl (h1 y hy)
    · rw [if_neg hl]
      refine List.pairwise_cons.2 ⟨fun y hy => ?_, insT_sorted r l h2 (fun z hz => hn z (by simp [hz]))⟩
      rcases mem_insT.1 hy with rfl | hy
      · exact less_total (fun e => hn x (by simp) e.symm) (by simpa using hl)
      · exact h1 y hy
theorem putT_sorted {l : List (ByteArray × ByteArray)} (h : SortedT l) (r : ByteArray × ByteArray) : SortedT (putT l r) :=
  insT_sorted r _ (h.sublist List.filter_sublist) (fun x hx => by have := (List.mem_filter.1 hx).2; simpa using this)
theorem tab_sorted (rs : List (ByteArray × ByteArray)) : SortedT (tab rs) := by
  have key : ∀ (rs l : List (ByteArray × ByteArray)), SortedT l → SortedT (rs.foldl putT l) := by
    intro rs
    induction rs with
    | nil => exact fun l h => h
    | cons r rs ih => exact fun l h => ih _ (putT_sorted h r)
  exact key rs [] List.Pairwise.nil
theorem length_insT (r : ByteArray × ByteArray) : ∀ l : List (ByteArray × ByteArray), (insT r l).length = l.length + 1
  | [] => rfl
  | x :: l => by
    rw [insT]
    split
    · rfl
    · simp [length_insT r l]
theorem putT_len (l : List (ByteArray × ByteArray)) (r : ByteArray × ByteArray) : (putT l r).length ≤ l.length + 1 := by
  unfold putT
  rw [length_insT]
  have := List.length_filter_le (fun x : ByteArray × ByteArray => !(bl x.1 == bl r.1)) l
  omega
theorem tab_len (rs : List (ByteArray × ByteArray)) : (tab rs).length ≤ rs.length := by
  have key : ∀ (rs l : List (ByteArray × ByteArray)), (rs.foldl putT l).length ≤ l.length + rs.length := by
    intro rs
    induction rs with
    | nil => intro l; simp
    | cons r rs ih =>
      intro l
      have h1 := ih (putT l r)
      have h2 := putT_len l r
      rw [List.foldl_cons, List.length_cons]
      omega
  have := key rs []
  simp only [List.length_nil, Nat.zero_add] at this
  exact this
theorem mem_putT {l : List (ByteArray × ByteArray)} {r y : ByteArray × ByteArray} (h : y ∈ putT l r) : y = r ∨ y ∈ l := by
  rcases mem_insT.1 h with h | h
  · exact .inl h
  · exact .inr (List.mem_filter.1 h).1
theorem mem_tab {rs : List (ByteArray × ByteArray)} {y : ByteArray × ByteArray} (h : y ∈ tab rs) : y ∈ rs := by
  have key : ∀ (rs l : List (ByteArray × ByteArray)), y ∈ rs.foldl putT l → y ∈ l ∨ y ∈ rs := by
    intro rs
    induction rs with
    | nil => exact fun l h => .inl h
    | cons r rs ih =>
      intro l h
      rcases ih _ h with h | h
      · rcases mem_putT h with rfl | h
        · exact .inr (by simp)
        · exact .inl h
      · exact .inr (by simp [h])
  rcases key rs [] h with h | h
  · simp at h
  · exact h
/-- What the map gives at a key of the table. -/
theorem tab_at {rs : List (ByteArray × ByteArray)} {x : ByteArray × ByteArray} (h : x ∈ tab rs) (z : DataW Unit) : (mapOf rs).atKey (.string (bl x.1)) z = .lit (.string (bl x.2)) := by
  rw [tab_map]
  refine WideAt.atKey_mem z (strLit _) ?_ (List.mem_map.2 ⟨x, h, rfl⟩)
  rw [List.pairwise_map]
  refine (tab_sorted rs).imp (fun {a b} hab e => ?_)
  have e2 : bl a.1 = bl b.1 := by simpa [litE] using e
  rw [bl_inj e2, less_irrefl] at hab
  cases hab
/-- The keys of the map, sorted, are those of the table. -/
theorem tab_keys {rs : List (ByteArray × ByteArray)} {ss : List (List UInt8)} (h : ss.Perm (strKeys (mapOf rs))) : ss.mergeSort (fun x y => decide (x ≤ y)) = (tab rs).map fun x => bl x.1 := by
  have e : strKeys (mapOf rs) = (tab rs).map fun x => bl x.1 := by
    rw [tab_map]
    show ((tab rs).map litE).map (fun p => strOf p.1) = _
    rw [List.map_map]
    rfl
  rw [e] at h
  refine (mergeSort_of_perm h).trans ?_
  refine List.mergeSort_of_pairwise ?_
  rw [List.pairwise_map]
  refine (tab_sorted rs).imp (fun {a b} hab => ?_)
  unfold less at hab
  rw [less_lt] at hab
  have := of_decide_eq_true hab
  exact decide_eq_true (List.le_of_lt this)
end Go.Proofs.YtepeehjajhehfaaGreatDoor
namespace Go.Proofs.YtepeehjajhehfaaGreatDoor
open Go.RowKit Go.PlainAid Go.Maps Go.ChangeMaps Go.MapKept Go.WideMaps
set_option linter.unusedVariables false

theorem sl_list (s : ByteArray) (h : 0 < s.size) : ((s.extract (s.size - 1) s.size).toList == [47]) = slB s := by
  obtain ⟨c, h1, h2⟩ := bt_of s (s.size - 1) (by omega)
  have e := Lib.size_eq s
  have e1 : (s.extract (s.size - 1) s.size).toList = [c] := by
    rw [Lib.toList_data, Lib.extract_data, show s.size - (s.size - 1) = 1 by omega, List.take_one, List.head?_drop, h1]
    rfl
  rw [e1]
  unfold slB
  rw [decide_eq_true (by omega : s.size ≠ 0), Bool.true_and, h2]
  by_cases hc : c = 47
  · subst hc; rfl
  · have h3 : ¬ ((c.toNat : Int) = 47) := fun h => hc (UInt8.toNat_inj.mp (by exact_mod_cast h))
    rw [decide_eq_false h3, beq_eq_false_iff_ne]
    intro h; injection h with h; exact hc h
set_option maxRecDepth 20000 in
set_option maxHeartbeats 800000 in
theorem hasSuf0 (s : ByteArray) (w : World) (hs : s.size ≤ 281474976710656) :
    Calls Tryz.prog 119 #[.string s, .string ⟨#[47]⟩] w fun e w' => e = .returned (.bool (slB s)) ∧ w = w' := by
  by_cases h : 0 < s.size
  · have HE := Lib.hid (sl_list s h)
    obtain ⟨b, hb⟩ : ∃ b, ((s.extract (s.size - 1) s.size).toList == [47]) = b := ⟨_, rfl⟩
    rw [hb] at HE
    have h1 : (1 : Int) ≤ (s.size : Int) := by omega
    have h2 : ((s.size : Int) - 1).toNat = s.size - 1 := by omega
    have h3 : IntKind.i64.wrap ((s.size : Int) - 1) = (s.size : Int) - 1 := IntWalk.i64_in _ (by omega)
    have h4 : (0 : Int) ≤ (s.size : Int) - 1 := by omega
    have h5 : (s.size : Int) - 1 ≤ (s.size : Int) := by omega
    have k1 : (⟨#[47]⟩ : ByteArray).size = 1 := rfl
    go_enter Tryz.func119, Tryz.ntmps119
    go_wp2
    go_ret
    exact ⟨by rw [← HE.out]; rfl, rfl⟩
  · have HE : Hid (slB s = false) := Lib.hid (by unfold slB; rw [decide_eq_false (by omega : ¬ s.size ≠ 0), Bool.false_and])
    have h1 : ¬ (1 : Int) ≤ (s.size : Int) := by omega
    have k1 : (⟨#[47]⟩ : ByteArray).size = 1 := rfl
    go_enter Tryz.func119, Tryz.ntmps119
    go_wp2
    go_ret
    exact ⟨by rw [HE.out]; rfl, rfl⟩
set_option maxRecDepth 20000 in
set_option maxHeartbeats 800000 in
theorem hasSuf (s : ByteArray) (w : World) (hs : s.size ≤ 281474976710656) :
    Calls Tryz.prog 99 #[.string s, .string ⟨#[47]⟩] w fun e w' => e = .returned (.bool (slB s)) ∧ w = w' := by
  have HP := Lib.hid (hasSuf0 s w hs)
  go_enter Tryz.func99, Tryz.ntmps99
  go_wp2_with fail
  refine HP.out.mono ?_
  rintro e w1 ⟨rfl, rfl⟩
  go_wp2
  go_ret
  exact ⟨rfl, rfl⟩
set_option maxRecDepth 20000 in
set_option maxHeartbeats 800000 in
theorem hasPre0 (s : ByteArray) (w : World) (hs : s.size ≤ 281474976710656) :
    Calls Tryz.prog 120 #[.string s, .string ⟨#[71, 78, 85, 46, 115, 112, 97, 114, 115, 101, 46]⟩] w fun e w' => e = .returned (.bool (spk s)) ∧ w = w' := by
  have k1 : (⟨#[71, 78, 85, 46, 115, 112, 97, 114, 115, 101, 46]⟩ : ByteArray).size = 11 := rfl
  by_cases h : 11 ≤ s.size
  · obtain ⟨b, hb⟩ : ∃ b, ((s.extract 0 11).toList == [71, 78, 85, 46, 115, 112, 97, 114, 115, 101, 46]) = b := ⟨_, rfl⟩
    have HE : Hid (spk s = b) := Lib.hid (by unfold spk gsp; rw [decide_eq_true h, Bool.true_and, hb])
    have h1 : (11 : Int) ≤ (s.size : Int) := by omega
    go_enter Tryz.func120, Tryz.ntmps120
    go_wp2
    go_ret
    exact ⟨by rw [HE.out]; rfl, rfl⟩
  · have HE : Hid (spk s = false) := Lib.hid (by unfold spk; rw [decide_eq_false h, Bool.false_and])
    have h1 : ¬ (11 : Int) ≤ (s.size : Int) := by omega
    go_enter Tryz.func120, Tryz.ntmps120
    go_wp2
    go_ret
    exact ⟨by rw [HE.out]; rfl, rfl⟩
set_option maxRecDepth 20000 in
set_option maxHeartbeats 800000 in
theorem hasPre (s : ByteArray) (w : World) (hs : s.size ≤ 281474976710656) :
    Calls Tryz.prog 103 #[.string s, .string ⟨#[71, 78, 85, 46, 115, 112, 97, 114, 115, 101, 46]⟩] w fun e w' => e = .returned (.bool (spk s)) ∧ w = w' := by
  have HP := Lib.hid (hasPre0 s w hs)
  go_enter Tryz.func103, Tryz.ntmps103
  go_wp2_with fail
  refine HP.out.mono ?_
  rintro e w1 ⟨rfl, rfl⟩
  go_wp2
  go_ret
  exact ⟨rfl, rfl⟩
theorem key_yes {h : ByteArray} (h0 : h.size = 0) : h.toList = [] ∧ h.toList.isEmpty = true := by
  have e := Lib.size_eq h
  have : h.toList = [] := by rw [Lib.toList_data]; exact List.eq_nil_of_length_eq_zero (by omega)
  exact ⟨this, by rw [this]; rfl⟩
/-- What validPAXRecord tells: never an empty key or one with an equals sign; surely a key and a value without byte 0. -/
def ValR (k v : ByteArray) (b : Bool) : Prop := (b = true → k.size ≠ 0 ∧ ¬ fc 61 k < k.size) ∧ (k.size ≠ 0 → ¬ fc 61 k < k.size → ¬ fc 0 k < k.size → ¬ fc 0 v < v.size → b = true)
set_option maxRecDepth 20000 in
set_option maxHeartbeats 1600000 in
theorem validTold (k v : ByteArray) (w : World) (hk : k.size ≤ 4611686018427387904) (hv : v.size ≤ 4611686018427387904) :
    Calls Tryz.prog 104 #[.string k, .string v] w fun e w' => ∃ b, e = .returned (.bool b) ∧ ValR k v b ∧ w = w' := by
  obtain ⟨b1, hb1⟩ : ∃ b, decide (fc 0 k < k.size) = b := ⟨_, rfl⟩
  obtain ⟨b2, hb2⟩ : ∃ b, decide (fc 0 v < v.size) = b := ⟨_, rfl⟩
  have N1 := Lib.hid hb1
  have N2 := Lib.hid hb2
  have hb1' := Lib.hid hb1
  have hb2' := Lib.hid hb2
  clear hb1 hb2
  by_cases h0 : k.size = 0
  · have HV : Hid (ValR k v false) := Lib.hid ⟨(fun h => by cases h), (fun h => absurd h0 h)⟩
    obtain ⟨e1, e2⟩ := key_yes h0
    clear h0
    go_enter Tryz.func104, Tryz.ntmps104
    go_wp2_with (fail)
    go_ret
    exact ⟨_, rfl, HV.out, rfl⟩
  obtain ⟨e1, e2⟩ := key_no h0
  by_cases hq : fc 61 k < k.size
  · have HV : Hid (ValR k v false) := Lib.hid ⟨(fun h => by cases h), (fun _ h => absurd hq h)⟩
    have HQ : Hid (decide (fc 61 k < k.size) = true) := Lib.hid (decide_eq_true hq)
    clear h0 hq
    go_enter Tryz.func104, Tryz.ntmps104
    go_wp2_with (go_at_call 112; refine (zzContains1 k 61 w hk).mono ?_; rw [HQ.out]; rintro e w' ⟨rfl, rfl⟩)
    go_ret
    exact ⟨_, rfl, HV.out, rfl⟩
  · have HV1 : Hid (ValR k v (!b1)) := Lib.hid ⟨(fun _ => ⟨h0, hq⟩), (fun _ _ h1 _ => by rw [← hb1'.out, decide_eq_false h1]; rfl)⟩
    have HV2 : Hid (ValR k v (!b2)) := Lib.hid ⟨(fun _ => ⟨h0, hq⟩), (fun _ _ _ h2 => by rw [← hb2'.out, decide_eq_false h2]; rfl)⟩
    have HQ : Hid (decide (fc 61 k < k.size) = false) := Lib.hid (decide_eq_false hq)
    clear h0 hq
    go_enter Tryz.func104, Tryz.ntmps104
    go_wp2_with (first
      | (go_at_call 112; refine (zzContains1 k 61 w hk).mono ?_; rw [HQ.out]; rintro e w' ⟨rfl, rfl⟩)
      | (go_at_call 72; refine (pubHasNUL _ w (by assumption)).mono ?_; (first | rw [N1.out] | rw [N2.out]); rintro e w' ⟨rfl, rfl⟩))
    all_goals
      go_ret
      first
      | exact ⟨_, rfl, HV1.out, rfl⟩
      | exact ⟨_, rfl, HV2.out, rfl⟩

/-! ### Maps of strings -/
theorem keyOf_str_inv {key : Value} {kl : Lit} (h : keyOf Tryz.prog 9 key = some kl) : ∃ x : ByteArray, key = .string x ∧ kl = .string (bl x) ∧ x.size ≤ maxLen := by
  cases key <;> simp [keyOf, Tryz.underlying9, mapKey] at h
  exact ⟨_, rfl, h.2.symm, h.1⟩
/-- The range's step at keys and elements that are strings. -/
theorem wpList_next_ranges_ss {H : Type} (w : World) {ops : Array Oper} {rest : List Oper} {o : Oper} {a : Act} {Q : Exit → Act → World → Prop}
    (hg : o.guard = none) (it : Operand) (hop : o.op = Op.next it false)
    (b r n : Nat) (D : DataW H) (left : Lit → Bool) (cnt : Nat) (hit : a.eval it = .pointer (some ⟨r, 0, none⟩)) (h : w.ranges Tryz.prog 9 (plainElem Tryz.prog 9) b r n D left cnt)
    (hDone : cnt = 0 → (∀ kl, left kl = false) → wpList Tryz.prog ops Q rest (a.put o.dst (.tuple #[.bool false])) w)
    (hMore : ∀ (x c : ByteArray) (w' : World) (cnt' : Nat), x.size ≤ maxLen → c.size ≤ maxLen → left (.string (bl x)) = true → (∀ zd, D.atKey (.string (bl x)) zd = .lit (.string (bl c))) → w'.ranges Tryz.prog 9 (plainElem Tryz.prog 9) b r n D (fun z => left z && !z.sameKey (.string (bl x))) cnt' → cnt' < cnt →
      w.grownBy w' (some r) → w'.heap.size = w.heap.size → (Instr.entry (.pointer (some ⟨r, 0, none⟩))).run Tryz.prog w' = .ok (.tuple #[.string x, .string c]) w' → wpList Tryz.prog ops Q rest (a.put o.dst (.tuple #[.bool true, .string x, .string c])) w') :
    wpList Tryz.prog ops Q (o :: rest) a w :=
  wpList_next_ranges w hg it hop 9 strKeyed (plainElem Tryz.prog 9) Value.string Value.string (fun key kl hkey => by obtain ⟨x, rfl, _⟩ := keyOf_str_inv hkey; exact ⟨x, rfl⟩) (fun v y hv => by obtain ⟨c, rfl, _⟩ := plainElem_string_inv Tryz.underlying9 hv; exact ⟨c, rfl⟩)
    b r n D left cnt hit h hDone (fun x c kl y w' cnt' hkey hlk hv hat hrg hlt hgr hsz hen => by
      obtain ⟨x', ex, rfl, hwx⟩ := keyOf_str_inv hkey
      cases ex
      obtain ⟨c', ec, rfl, hwc⟩ := plainElem_string_inv Tryz.underlying9 hv
      cases ec
      exact hMore x c w' cnt' hwx hwc hlk hat hrg hlt hgr hsz hen)
theorem sameKey_bl {a b : ByteArray} : (Lit.string (bl a)).sameKey (.string (bl b)) = true ↔ a = b := by
  constructor
  · intro h
    by_cases hab : (Lit.string (bl a)) = .string (bl b)
    · injection hab with hab; exact bl_inj hab
    · rw [sameKey_ne hab] at h; cases h
  · rintro rfl
    exact WideAt.sameKey_self (strLit _)
theorem has_foldl (k : ByteArray) : ∀ (L : List (ByteArray × ByteArray)) (d : DataW Unit), IsMap d →
    (Maps.has (L.foldl (fun d r => d.put (.string r.1.data.toList) (.lit (.string r.2.data.toList))) d) (.string (bl k)) = true ↔ (Maps.has d (.string (bl k)) = true ∨ ∃ x ∈ L, x.1 = k))
  | [], d, _ => by simp
  | r :: L, d, hd => by
    rw [List.foldl_cons, has_foldl k L _ (hd.put _ _)]
    by_cases h : r.1 = k
    · subst h
      rw [show (Lit.string r.1.data.toList) = .string (bl r.1) from rfl, has_put_same hd (strLit _)]
      exact ⟨fun _ => .inr ⟨r, by simp, rfl⟩, fun _ => .inl rfl⟩
    · rw [show (Lit.string r.1.data.toList) = .string (bl r.1) from rfl, has_put_other (fun e => h (by injection e with e; exact (bl_inj e).symm))]
      constructor
      · rintro (h1 | ⟨x, hx, e⟩)
        · exact .inl h1
        · exact .inr ⟨x, by simp [hx], e⟩
      · rintro (h1 | ⟨x, hx, e⟩)
        · exact .inl h1
        · rcases List.mem_cons.1 hx with hx | hx
          · subst hx; exact absurd e h
          · exact .inr ⟨x, hx, e⟩
/-- Is a key there: just if a record of it is. -/
theorem has_mapOf (L : List (ByteArray × ByteArray)) (k : ByteArray) : Maps.has (mapOf L) (.string (bl k)) = true ↔ ∃ x ∈ L, x.1 = k := by
  unfold mapOf
  rw [has_foldl k L _ isMap_empty]
  constructor
  · rintro (h | h)
    · simp [Maps.has] at h
    · exact h
  · exact .inr
/-- A record of the table, from the map's own answer. -/
theorem mem_of_at {L : List (ByteArray × ByteArray)} {k c : ByteArray} (h : ∀ zd, (mapOf L).atKey (.string (bl k)) zd = .lit (.string (bl c))) : (k, c) ∈ tab L := by
  have hh := has_true_of_atKey h
  rw [tab_map, has_eq] at hh
  rw [List.any_map, List.any_eq_true] at hh
  obtain ⟨x, hx, e⟩ := hh
  have e1 : x.1 = k := sameKey_bl.1 e
  have e2 := tab_at hx (.map [])
  rw [e1, h] at e2
  injection e2 with e2
  injection e2 with e2
  have e3 : c = x.2 := bl_inj e2
  rw [← e1, e3]
  exact hx
end Go.Proofs.YtepeehjajhehfaaGreatDoor
namespace Go.Proofs.YtepeehjajhehfaaGreatDoor
open Go.RowKit Go.PlainAid Go.Maps Go.ChangeMaps Go.MapKept Go.WideMaps
set_option linter.unusedVariables false

theorem run_loadVar_c {P : Program} (w : World) (T : TypeId) (d : TypeDesc) (hu : P.underlying T = some d) (hd : (match d with | .struct _ | .array _ _ => true | _ => false) = false) (a : Addr) (v : Value) (hc : w.cell? a = some v) : (loadVar T a).run P w = .ok v w := by
  cases d <;> simp at hd <;> simp [loadVar, isAgg, run_underlying hu, load, hc, Sem.run, Result.andThen]
theorem results_cct {P : Program} {fn : Func} {t u v : Tmp} {T U : TypeId} (h : fn.results = #[.cell t T, .cell u U, .tmp v]) (tmps : Array Value) (w : World) {a b : Addr} {x y : Value}
    (ht : tmps.getD t undef = .pointer (some a)) (hu : tmps.getD u undef = .pointer (some b)) (hx : (loadVar T a).run P w = .ok x w) (hy : (loadVar U b).run P w = .ok y w) :
    (results fn tmps).run P w = .ok (.tuple #[x, y, tmps.getD v undef]) w := by
  have ht' : tmps[t]?.getD undef = .pointer (some a) := by simpa using ht
  have hu' : tmps[u]?.getD undef = .pointer (some b) := by simpa using hu
  simp [results, h, ht', hu', asAddr, hx, hy]
theorem wpList_len_nil {P : Program} (w : World) {ops : Array Oper} {rest : List Oper} {o : Oper} {a : Act} {Q : Exit → Act → World → Prop} (hg : o.guard = none) (m : Operand) (t : TypeId) (hop : o.op = Op.call { callee := Callee.builtin Builtin.len, args := #[m], argTypes := #[t] })
    (k e : TypeId) (ht : P.underlying t = some (.map k e)) (hm : a.eval m = .map none)
    (hK : wpList P ops Q rest (a.put o.dst (.int .i64 0)) w) :
    wpList P ops Q (o :: rest) a w := by
  refine wpList_plain hg fun K' hK' => ?_
  have hrun := Maps.len_nil (w := w) ht o.type
  unfold Oper.wp
  simp [execOp, hop, resolve, invoke, builtin, hm, hrun, Result.andThen]
  exact hK' _ _ hK
theorem size_pos' {R : List (ByteArray × ByteArray)} (h : R ≠ []) : 0 < Maps.size (mapOf R) := by
  obtain ⟨x, r, rfl⟩ := List.exists_cons_of_ne_nil h
  have h1 := (has_mapOf (x :: r) x.1).2 ⟨x, by simp, rfl⟩
  rw [tab_map] at h1 ⊢
  rw [has_eq] at h1
  rw [size_eq]
  cases ht : (tab (x :: r)).map litE with
  | nil => rw [ht] at h1; simp at h1
  | cons a b => simp
theorem str_size : (Tryz.prog.info? 9).map (·.size) = some 1 := by kernel_rfl
theorem str_zero : (Tryz.prog.info? 9).bind (·.zero) = some (.string ⟨#[]⟩) := by kernel_rfl
/-- A slice literal of one string: nothing of its making is left to be reckoned. -/
theorem wpList_bs1s (w : World) {ops : Array Oper} {rest : List Oper} {o : Oper} {a : Act} {Q : Exit → Act → World → Prop} (hg : o.guard = none) (t0 : Operand) (ho : o.op = .buildSlice 144 1 #[(0, t0)]) (x0 : ByteArray) (h0 : a.eval t0 = .string x0)
    (h : ∀ w' v, w.grownBy w' none → v = Value.slice (some ⟨w.heap.size, 0, none⟩) 1 1 → wpList Tryz.prog ops Q rest (a.put o.dst v) w') : wpList Tryz.prog ops Q (o :: rest) a w := by
  cases hie : Tryz.prog.info? 9 with
  | none => have e := str_size; rw [hie] at e; cases e
  | some ie =>
    have e1 := str_size
    have e2 := str_zero
    rw [hie] at e1 e2
    have hs : ie.size = 1 := by simpa using e1
    have hz : ie.zero = some (.string ⟨#[]⟩) := by simpa using e2
    refine wpList_buildSlice hg 144 9 1 _ ho #[.string x0] ie (.string ⟨#[]⟩) Tryz.underlying144 hie hz (by rw [hs]; decide) (by rw [hs]; decide) ?_ (h _ _ (World.grownBy_alloc _ _ _) rfl)
    rw [hs]
    have e : (#[(0, t0)].map fun (i, x) => (i, a.eval x)).toList = [(0, Value.string x0)] := by simp [h0]
    rw [e]
    have key : Instr.fill (fun i => some (i * 1, 1)) ((Array.range (1 * 1)).map ((Value.string ⟨#[]⟩).cells[· % (Value.string ⟨#[]⟩).cells.size]!)) [(0, Value.string x0)] = some #[.string x0] := by kernel_rfl
    exact key
theorem wpList_bs5s (w : World) {ops : Array Oper} {rest : List Oper} {o : Oper} {a : Act} {Q : Exit → Act → World → Prop} (hg : o.guard = none) (t0 t1 t2 t3 t4 : Operand) (ho : o.op = .buildSlice 144 5 #[(0, t0), (1, t1), (2, t2), (3, t3), (4, t4)]) (x0 x1 x2 x3 x4 : ByteArray)
    (h0 : a.eval t0 = .string x0) (h1 : a.eval t1 = .string x1) (h2 : a.eval t2 = .string x2) (h3 : a.eval t3 = .string x3) (h4 : a.eval t4 = .string x4)
    (h : ∀ w' v, w.grownBy w' none → v = Value.slice (some ⟨w.heap.size, 0, none⟩) 5 5 → wpList Tryz.prog ops Q rest (a.put o.dst v) w') : wpList Tryz.prog ops Q (o :: rest) a w := by
  cases hie : Tryz.prog.info? 9 with
  | none => have e := str_size; rw [hie] at e; cases e
  | some ie =>
    have e1 := str_size
    have e2 := str_zero
    rw [hie] at e1 e2
    have hs : ie.size = 1 := by simpa using e1
    have hz : ie.zero = some (.string ⟨#[]⟩) := by simpa using e2
    refine wpList_buildSlice hg 144 9 5 _ ho #[.string x0, .string x1, .string x2, .string x3, .string x4] ie (.string ⟨#[]⟩) Tryz.underlying144 hie hz (by rw [hs]; decide) (by rw [hs]; decide) ?_ (h _ _ (World.grownBy_alloc _ _ _) rfl)
    rw [hs]
    have e : (#[(0, t0), (1, t1), (2, t2), (3, t3), (4, t4)].map fun (i, x) => (i, a.eval x)).toList = [(0, Value.string x0), (1, Value.string x1), (2, Value.string x2), (3, Value.string x3), (4, Value.string x4)] := by simp [h0, h1, h2, h3, h4]
    rw [e]
    have key : Instr.fill (fun i => some (i * 1, 1)) ((Array.range (5 * 1)).map ((Value.string ⟨#[]⟩).cells[· % (Value.string ⟨#[]⟩).cells.size]!)) [(0, Value.string x0), (1, Value.string x1), (2, Value.string x2), (3, Value.string x3), (4, Value.string x4)] = some #[.string x0, .string x1, .string x2, .string x3, .string x4] := by kernel_rfl
    exact key
/-- Keys that the fields stand for. -/
def basL : List (List UInt8) := [bl kPath, bl kLink, bl kSize, bl kUid, bl kGid, bl kUn, bl kGn, bl kMt, bl kAt, bl kCt]
def bas (k : ByteArray) : Bool := basL.contains (bl k)
/-- The variable basicKeys, and what a look-up in it answers. -/
def BK (B : Nat) (w : World) : Prop := ∃ q, ∀ w', Below B w w' → w'.cell? ⟨0, 0, none⟩ = some (.map (some q)) ∧
  ∀ k : ByteArray, k.size ≤ maxLen → (Instr.lookup 146 (.map (some q)) (.string k) false).run Tryz.prog w' = .ok (.bool (bas k)) w'
/-- Types of headers that are told by no one. -/
def TyErr (h : Hd) : Prop := ((h.ty = 48 ∨ h.ty = 51 ∨ h.ty = 52 ∨ h.ty = 54 ∨ h.ty = 83) ∧ slB h.name = true) ∨ h.ty = 120 ∨ h.ty = 76 ∨ h.ty = 75 ∨ h.ty = 103
/-- What the closures lay: what the fields say, or, at the empty key, what a record has there. -/
def FR (h : Hd) (mx an ax cn cx : Int) (R : List (ByteArray × ByteArray)) (x : ByteArray × ByteArray) : Prop := FE h mx an ax cn cx x ∨ (x ∈ tab R ∧ bas x.1 = false ∧ spk x.1 = false)
theorem mem_of_at1 {R : List (ByteArray × ByteArray)} {k s : ByteArray} {z : DataW Unit} (hok : Maps.has (mapOf R) (.string (bl k)) = true) (hat : (mapOf R).atKey (.string (bl k)) z = .lit (.string (bl s))) : (k, s) ∈ tab R := by
  rw [tab_map, has_eq] at hok
  rw [List.any_map, List.any_eq_true] at hok
  obtain ⟨x, hx, e⟩ := hok
  have e1 : x.1 = k := sameKey_bl.1 e
  have e2 := tab_at hx z
  rw [e1, hat] at e2
  injection e2 with e2
  injection e2 with e2
  have e3 : s = x.2 := bl_inj e2
  rw [← e1, e3]
  exact hx
/-- What stands in the records that would be written. -/
structure LE (h : Hd) (mx an ax cn cx : Int) (R L : List (ByteArray × ByteArray)) : Prop where
  src : ∀ x ∈ L, FE h mx an ax cn cx x ∨ (x ∈ tab R ∧ bas x.1 = false ∧ spk x.1 = false)
  all : ∀ x ∈ tab R, bas x.1 = false → spk x.1 = false → ∃ v, (x.1, v) ∈ L
  len : L.length ≤ 26 + R.length
def AllYes (h : Hd) (mx an ax cn cx : Int) (R : List (ByteArray × ByteArray)) (u p g : Bool) (L : List (ByteArray × ByteArray)) : Prop :=
  ¬ TyErr h ∧ ¬ (hoB h.ty = false ∧ h.size < 0) ∧ LE h mx an ax cn cx R L ∧ (∀ x ∈ tab L, x.1.size ≠ 0 ∧ ¬ fc 61 x.1 < x.1.size) ∧
    u = (R.isEmpty && UF h mx an ax cn cx) ∧ p = PF h ∧ g = (R.isEmpty && GF h mx an ax cn cx) ∧ (u || p || g) = true
def AllNo (h : Hd) (mx an ax cn cx : Int) (R : List (ByteArray × ByteArray)) : Prop :=
  TyErr h ∨ (hoB h.ty = false ∧ h.size < 0) ∨ (∃ L, LE h mx an ax cn cx R L ∧ ∃ x ∈ tab L, ValR x.1 x.2 false) ∨ ((R.isEmpty && UF h mx an ax cn cx) || PF h || (R.isEmpty && GF h mx an ax cn cx)) = false
/-- What allowedFormats answers. -/
def AllP (h : Hd) (mx an ax cn cx : Int) (R : List (ByteArray × ByteArray)) (w : World) (e : Ending) (w' : World) : Prop :=
  ((∃ v1 v2 x, e = .returned (.tuple #[.int .i64 v1, .map v2, .iface 144 x])) ∧ AllNo h mx an ax cn cx R ∧ Below w.heap.size w w') ∨
  (∃ (u p g : Bool) (b : Nat) (L : List (ByteArray × ByteArray)), e = .returned (.tuple #[.int .i64 (fmtV u p g), .map (some b), .nilIface]) ∧ w'.ownsMap (H := Unit) Tryz.prog 9 (plainElem Tryz.prog 9) b L.length (mapOf L) ∧ AllYes h mx an ax cn cx R u p g L ∧ Below w.heap.size w w')
section
variable {B : Nat} {hx : List Value} {pm : Option Nat} {R L : List (ByteArray × ByteArray)} {u p g : Bool} {w0 w w' : World}
theorem AF.farS (s : AF B hx pm R u p g L w0 w) {S : List Nat} (hf : Far S w w') (hS : ∀ k ∈ S, B + 8 ≤ k) : AF B hx pm R u p g L w0 w' := by
  obtain ⟨_, y4⟩ := s.y4
  obtain ⟨_, y5⟩ := s.y5
  obtain ⟨_, y6⟩ := s.y6
  obtain ⟨_, y7⟩ := s.pf
  have n : ∀ i, i < B + 8 → i ∉ S := fun i hi hm => by have := hS i hm; omega
  exact ⟨s.bel' hf (fun k hk => by have := hS k hk; omega), s.hd.of_far hf (n _ (by omega)), s.hp, s.hr.far hf (fun k hk => by have := hS k hk; omega), s.fm.of_far hf (n _ (by omega)), s.mc.of_far hf (n _ (by omega)), ownsMap_of_far s.ow hf (n _ (by omega)), ⟨_, y4.of_far hf (n _ (by omega))⟩, ⟨_, y5.of_far hf (n _ (by omega))⟩, ⟨_, y6.of_far hf (n _ (by omega))⟩, ⟨_, y7.of_far hf (n _ (by omega))⟩⟩
theorem AF.grown (s : AF B hx pm R u p g L w0 w) {row : Option Nat} (hg : w.grownBy w' row) (hr : ∀ k, row = some k → B + 8 ≤ k) : AF B hx pm R u p g L w0 w' := by
  cases row with
  | none => exact s.farS (S := []) (Far.of_grown hg (fun k hk => by cases hk)) (by simp)
  | some k => exact s.farS (S := [k]) (Far.of_grown hg (fun j hj => by cases hj; simp)) (by intro j hj; simp at hj; subst hj; exact hr _ rfl)
/-- Where allowedFormats ends with an error: what its result cells hold. -/
theorem AF.errEnd (s : AF B hx pm R u p g L w0 w) (v1 : Int) (v2 : Option Nat) : ((w.setCell ⟨B + 1, 0, none⟩ (.int .i64 v1)).setCell ⟨B + 2, 0, none⟩ (.map v2)).cell? ⟨B + 1, 0, none⟩ = some (.int .i64 v1) ∧
    ((w.setCell ⟨B + 1, 0, none⟩ (.int .i64 v1)).setCell ⟨B + 2, 0, none⟩ (.map v2)).cell? ⟨B + 2, 0, none⟩ = some (.map v2) ∧ Below B w0 ((w.setCell ⟨B + 1, 0, none⟩ (.int .i64 v1)).setCell ⟨B + 2, 0, none⟩ (.map v2)) := by
  have h1 : Blk (w.setCell ⟨B + 1, 0, none⟩ (.int .i64 v1)) (B + 1) 73 [.int .i64 v1] := s.fm.set_ 0 _
  have h2 := h1.far (p := ⟨B + 2, 0, none⟩) (by show B + 1 ≠ B + 2; omega) (.map v2)
  have h3 : Blk (w.setCell ⟨B + 1, 0, none⟩ (.int .i64 v1)) (B + 2) 72 [.map (some (B + 3))] := s.mc.far (by show B + 2 ≠ B + 1; omega) _
  have h4 : Blk ((w.setCell ⟨B + 1, 0, none⟩ (.int .i64 v1)).setCell ⟨B + 2, 0, none⟩ (.map v2)) (B + 2) 72 [.map v2] := h3.set_ 0 _
  exact ⟨h2.cell 0, h4.cell 0, (s.bel.setCell (by show B ≤ B + 1; omega) _).setCell (by show B ≤ B + 2; omega) _⟩
end
end Go.Proofs.YtepeehjajhehfaaGreatDoor
