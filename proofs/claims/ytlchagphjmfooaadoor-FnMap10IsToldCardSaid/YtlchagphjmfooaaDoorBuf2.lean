/- bytes.Buffer behind reads: Len, tryGrowByReslice. -/
import Derived.Test.YtlchagphjmfooaaDoorBuf1
namespace Go.Proofs.YtlchagphjmfooaaDoor
open Go.RowKit Go.PlainAid
set_option linter.unusedVariables false

/-- The cells of a buffer. -/
def bufCells (v : Value) (off : Nat) (lr : Int) : List Value := [v, .int .i64 off, .int .i8 lr]
set_option maxRecDepth 20000 in
set_option maxHeartbeats 800000 in
theorem bufLen (b off l c : Nat) (lr : Int) (A : Option Addr) (w : World) (hb : Blk w b 153 (bufCells (.slice A l c) off lr)) (ho : off ≤ l) (hl : l ≤ 1000000000) :
    Calls Tryd.prog 121 #[.pointer (some ⟨b, 0, none⟩)] w fun e w' => e = .returned (.int .i64 ((l - off : Nat) : Int)) ∧ w' = w.drew := by
  have c0 : w.cell? ⟨b, 0, none⟩ = some (.slice A l c) := by rw [hb.cell]; rfl
  have c1 : w.cell? ⟨b, 1, none⟩ = some (.int .i64 off) := by rw [hb.cell]; rfl
  have u1 : IntKind.i64.wrap ((l : Int) - (off : Int)) = (l : Int) - (off : Int) := IntWalk.i64_in _ (by omega)
  have u2 : ((l - off : Nat) : Int) = (l : Int) - (off : Int) := by omega
  have HU := Lib.hid u2
  clear hb u2
  go_enter Tryd.func121, Tryd.ntmps121
  go_wp2
  go_region
  go_wp2
  go_ret
  exact ⟨(by rw [HU.out]; rfl), rfl⟩
/-- A buffer at block b over the row at block g, with the bytes D unread. -/
structure BufAt (b g off l cap : Nat) (lr : Int) (cur : Array Value) (D : List UInt8) (w : World) : Prop where
  blk : Blk w b 153 (bufCells (.slice (some ⟨g, 0, none⟩) l cap) off lr)
  row : w.heap[g]? = some (.cells cur 5 (0, 0))
  size : cur.size = cap
  len : off + D.length = l
  le : l ≤ cap
  big : cap ≤ maxLen
  at_ : (cur.toList.take l).drop off = bys D
  ne : g ≠ b
def BufG (b g : Nat) (D : List UInt8) (w : World) : Prop := ∃ off l cap lr cur, l ≤ 100000000 ∧ BufAt b g off l cap lr cur D w
theorem BufAt.cells {b g off l cap : Nat} {lr : Int} {cur : Array Value} {D : List UInt8} {w : World} (h : BufAt b g off l cap lr cur D w) (i : Nat) (hi : i < D.length) : w.cell? ⟨g, off + i, none⟩ = some (.int .u8 (byt D i)) := by
  have h1 : (bys D)[i]? = some (.int .u8 (byt D i)) := by
    rw [← bys_get D i hi]
  have h2 : cur.toList[off + i]? = some (.int .u8 (byt D i)) := by
    rw [← h1, ← h.at_, List.getElem?_drop, List.getElem?_take, if_pos (by have := h.len; omega)]
  have h3 : cur[off + i]? = some (.int .u8 (byt D i)) := by simpa using h2
  simp [World.cell?, h.row, h3]
theorem indexByte_tok : ∀ (T E : List UInt8) (c : UInt8), (∀ x ∈ T, x ≠ c) → Lib.indexByte (T ++ c :: E) c = (T.length : Int)
  | [], E, c, _ => by simp [Lib.indexByte]
  | a :: T, E, c, h => by
    have h1 := indexByte_tok T E c (fun x hx => h x (by simp [hx]))
    have h2 : (a == c) = false := by rw [beq_eq_false_iff_ne]; exact h a (by simp)
    show Lib.indexByte (a :: (T ++ c :: E)) c = _
    rw [Lib.indexByte, h2, h1]
    have h3 : ((T.length : Int) == -1) = false := by rw [beq_eq_false_iff_ne]; omega
    simp [h3]
theorem bytesOf_map (D : List UInt8) : Lib.bytesOf (D.map fun b => (b.toNat : Int)) = D := by
  unfold Lib.bytesOf
  rw [List.map_map]
  exact (List.map_congr_left (fun a _ => by simp)).trans (List.map_id D)
theorem map_getD (D : List UInt8) (i : Nat) (hi : i < D.length) : (D.map fun b : UInt8 => (b.toNat : Int)).getD i 0 = byt D i := by
  unfold byt
  simp [List.getD, hi]
theorem bufIndex (b g off l cap : Nat) (lr : Int) (cur : Array Value) (T E : List UInt8) (w : World) (h : BufAt b g off l cap lr cur (T ++ 10 :: E) w) (hT : ∀ x ∈ T, x ≠ 10) (c : Nat) :
    Calls Tryd.prog 124 #[.slice (some ⟨g, off, none⟩) (T ++ 10 :: E).length c, .int .u8 10] w fun e w' => e = .returned (.int .i64 T.length) ∧ w' = w := by
  refine (Tryd.bytes_IndexByte g off (T ++ 10 :: E).length c ((T ++ 10 :: E).map fun b => (b.toNat : Int)) 10 w (by simp) (fun i hi => ?_)).mono ?_
  · rw [h.cells i hi]
    have e1 : ((T ++ 10 :: E).map fun b : UInt8 => (b.toNat : Int)).getD i 0 = byt (T ++ 10 :: E) i := map_getD _ i hi
    rw [e1]
  · rintro e w' ⟨h1, h2⟩
    refine ⟨?_, h2⟩
    rw [h1, bytesOf_map]
    have h3 : (10 : Int).toNat.toUInt8 = 10 := rfl
    rw [h3, indexByte_tok T E 10 hT]
theorem BufAt.next {b g off l cap : Nat} {lr : Int} {cur : Array Value} {T E : List UInt8} {w w' : World} (h : BufAt b g off l cap lr cur (T ++ 10 :: E) w) (hb : Blk w' b 153 (bufCells (.slice (some ⟨g, 0, none⟩) l cap) (off + T.length + 1) (-1))) (hr : w'.heap[g]? = w.heap[g]?) :
    BufAt b g (off + T.length + 1) l cap (-1) cur E w' := by
  refine ⟨hb, by rw [hr]; exact h.row, h.size, ?_, h.le, h.big, ?_, h.ne⟩
  · have := h.len
    rw [List.length_append, List.length_cons] at this
    omega
  · have h1 := congrArg (List.drop (T.length + 1)) h.at_
    rw [List.drop_drop, show off + (T.length + 1) = off + T.length + 1 by omega] at h1
    rw [h1, show T ++ 10 :: E = (T ++ [10]) ++ E by simp, bys_append]
    have h2 : (bys (T ++ [10])).length = T.length + 1 := by rw [length_bys]; simp
    rw [← h2, List.drop_left]
theorem BufAt.drew {b g off l cap : Nat} {lr : Int} {cur : Array Value} {D : List UInt8} {w : World} (h : BufAt b g off l cap lr cur D w) : BufAt b g off l cap lr cur D w.drew := ⟨h.blk, h.row, h.size, h.len, h.le, h.big, h.at_, h.ne⟩
theorem keepB {b g off l cap : Nat} {lr : Int} {cur : Array Value} {D : List UInt8} {u v : Value} {w0 w : World} (h : w.cell? ⟨b, 0, none⟩ = some u ∧ w.cell? ⟨b, 1, none⟩ = some v ∧ BufAt b g off l cap lr cur D w ∧ Far [b] w0 w) :
    w.drew.cell? ⟨b, 0, none⟩ = some u ∧ w.drew.cell? ⟨b, 1, none⟩ = some v ∧ BufAt b g off l cap lr cur D w.drew ∧ Far [b] w0 w.drew := ⟨h.1, h.2.1, h.2.2.1.drew, h.2.2.2.drew⟩
theorem heldB {b g off l cap : Nat} {lr : Int} {cur : Array Value} {D : List UInt8} {u v : Value} {w0 w : World} (h : w.cell? ⟨b, 0, none⟩ = some u ∧ w.cell? ⟨b, 1, none⟩ = some v ∧ BufAt b g off l cap lr cur D w ∧ Far [b] w0 w) : BufAt b g off l cap lr cur D w := h.2.2.1
set_option maxRecDepth 20000 in
set_option maxHeartbeats 3200000 in
theorem readSl (b g off l cap : Nat) (lr : Int) (cur : Array Value) (T E : List UInt8) (w : World) (h : BufAt b g off l cap lr cur (T ++ 10 :: E) w) (hT : ∀ x ∈ T, x ≠ 10) (hl : l ≤ 100000000) :
    Calls Tryd.prog 103 #[.pointer (some ⟨b, 0, none⟩), .int .u8 10] w fun e w' => e = .returned (.tuple #[.slice (some ⟨g, off, none⟩) (T.length + 1) (cap - off), .nilIface]) ∧ BufAt b g (off + T.length + 1) l cap (-1) cur E w' ∧ Far [b] w w' := by
  have c0 : w.cell? ⟨b, 0, none⟩ = some (.slice (some ⟨g, 0, none⟩) l cap) := by rw [h.blk.cell]; rfl
  have c1 : w.cell? ⟨b, 1, none⟩ = some (.int .i64 off) := by rw [h.blk.cell]; rfl
  have c2 : w.cell? ⟨b, 2, none⟩ = some (.int .i8 lr) := by rw [h.blk.cell]; rfl
  have hD : (T ++ 10 :: E).length = l - off := by have := h.len; omega
  have f1 := h.blk.frozen 1
  have f2 := h.blk.frozen 2
  have HI : Hid (∀ c w0, BufAt b g off l cap lr cur (T ++ 10 :: E) w0 → Calls Tryd.prog 124 #[.slice (some ⟨g, off, none⟩) (l - off) c, .int .u8 10] w0 fun e w' => e = .returned (.int .i64 T.length) ∧ w' = w0) := Lib.hid (fun c w0 h0 => by have := bufIndex b g off l cap lr cur T E w0 h0 hT c; rwa [hD] at this)
  have hl2 := h.len
  have hle := h.le
  rw [List.length_append, List.length_cons] at hl2
  have hbig : cap ≤ 9223372036854775807 := h.big
  have HB := Lib.hid h
  have HS0 := Lib.hid (show w.cell? ⟨b, 0, none⟩ = some (.slice (some ⟨g, 0, none⟩) l cap) ∧ w.cell? ⟨b, 1, none⟩ = some (.int .i64 off) ∧ BufAt b g off l cap lr cur (T ++ 10 :: E) w ∧ Far [b] w w from ⟨c0, c1, h, Far.refl _ _⟩)
  obtain ⟨e, he⟩ : ∃ e, e = off + T.length + 1 := ⟨_, rfl⟩
  obtain ⟨m, hm⟩ : ∃ m, m = T.length := ⟨_, rfl⟩
  rw [← hm] at HI he hl2
  have u0 : off < cap := by omega
  have u1 : (0 : Int) ≤ (off : Int) := by omega
  have u2 : (off : Int) ≤ (l : Int) := by omega
  have u3 : (off : Int) ≤ (cap : Int) := by omega
  have u4 : ¬ cap = off := by omega
  have u5 : IntKind.i64.wrap ((off : Int) + (m : Int)) = (off : Int) + (m : Int) := IntWalk.i64_in _ (by omega)
  have u6 : IntKind.i64.wrap ((off : Int) + (m : Int) + 1) = (e : Int) := by rw [IntWalk.i64_in _ (by omega)]; omega
  have u7 : ¬ (m : Int) < 0 := by omega
  have u8 : (off : Int) ≤ (e : Int) := by omega
  have u9 : (e : Int) ≤ (cap : Int) := by omega
  have u10 : (0 : Int) ≤ (e : Int) := by omega
  have HE := Lib.hid he
  have HM := Lib.hid hm
  have HK : Hid (∀ q, BufAt b g (off + T.length + 1) l cap (-1) cur E (((w.setCell ⟨b, 1, none⟩ (.int .i64 e)).setCell ⟨b, 2, none⟩ (.int .i8 (-1))).drewN q) ∧ Far [b] w (((w.setCell ⟨b, 1, none⟩ (.int .i64 e)).setCell ⟨b, 2, none⟩ (.int .i8 (-1))).drewN q)) := Lib.hid (fun q => by
    constructor
    · refine h.next ?_ ?_
      · rw [he, hm]
        exact (((h.blk.set_ 1 _).set_ 2 _).drewN q)
      · show ((w.setCell ⟨b, 1, none⟩ _).setCell ⟨b, 2, none⟩ _).heap[g]? = _
        rw [Below.heap_setCell _ _ _ g h.ne, Below.heap_setCell _ _ _ g h.ne]
    · exact ((((Far.refl [b] w).setCell (p := ⟨b, 1, none⟩) (.inl (by simp)) _).setCell (p := ⟨b, 2, none⟩) (.inl (by simp)) _).drewN q))
  clear h hD hT he hm hl2
  go_enter Tryd.func103, Tryd.ntmps103
  go_wp2
  go_region_held3 (fun w' => w'.cell? ⟨b, 0, none⟩ = some (.slice (some ⟨g, 0, none⟩) l cap) ∧ w'.cell? ⟨b, 1, none⟩ = some (.int .i64 off) ∧ BufAt b g off l cap lr cur (T ++ 10 :: E) w' ∧ Far [b] w w') (first | exact keepB HS0.out | assumption | exact keepB (by assumption))
    (first
    | (go_at_call 124; refine (HI.out _ _ (heldB (by assumption))).mono ?_; rintro e w' ⟨rfl, rfl⟩))
  go_wp2
  go_region
  go_wp2
  go_ret2
  refine ⟨?_, (HK.out 2).1, (HK.out 2).2⟩
  rw [← HM.out, show m + 1 = e - off by have := HE.out; omega]
  rfl
end Go.Proofs.YtlchagphjmfooaaDoor
