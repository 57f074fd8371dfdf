/- spec.Apply: records that tell what the header has leave it as it is. -/
import Derived.Test.YtepeehjajhehfaaGreatDoorMA8
import Derived.Test.YtepeehjajhehfaaGreatDoorMA7
import Derived.Test.YtepeehjajhehfaaGreatDoorMA5
import Derived.Test.YtepeehjajhehfaaGreatDoorSm
import Derived.Test.YtepeehjajhehfaaGreatDoorMA2
namespace Go.Proofs.YtepeehjajhehfaaGreatDoor
open Go.RowKit Go.PlainAid
set_option linter.unusedVariables false

/-- A decimal number, and what it comes to. -/
def DecT (v : ByteArray) (n : Int) : Prop := DecOk v ∧ ((vl 0 v.data.toList : Nat) : Int) = n
/-- A time's text, read by the documents. -/
def RdT (v : ByteArray) (s n : Int) : Prop := ∀ w, Calls Tryz.prog 35 #[.string v] w (STim s n 1 w)
/-- A record that tells what the header has, or nothing of its fields. -/
def ApOk (h : Hd) (k v : ByteArray) : Prop :=
  (k = kPath ∧ v = h.name) ∨ (k = kLink ∧ v = h.link) ∨ (k = kUn ∧ v = h.un) ∨ (k = kGn ∧ v = h.gn) ∨ (k = kSize ∧ DecT v h.size) ∨ (k = kUid ∧ DecT v h.uid) ∨ (k = kGid ∧ DecT v h.gid) ∨
  (k = kMt ∧ RdT v h.ms h.mn) ∨ (k = kAt ∧ h.ha = true ∧ RdT v h.as_ h.an) ∨ (k = kCt ∧ h.hc = true ∧ RdT v h.cs h.cn) ∨ bas k = false
theorem decAp (h : Hd) (K V : ByteArray) (hap : ApOk h K V) (hs : V.size ≤ 4611686018427387904) (w : World) : Calls Tryz.prog 34 #[.string V] w fun e w' => (∃ n b, e = .returned (.tuple #[.int .i64 n, .bool b]) ∧ (K = kSize → n = h.size ∧ b = true) ∧ (K = kUid → n = h.uid ∧ b = true) ∧ (K = kGid → n = h.gid ∧ b = true)) ∧ w = w' := by
  refine (decimal_any V w hs).mono ?_
  rintro e w' ⟨hd, hw⟩
  refine ⟨?_, hw⟩
  have key : ∀ m, DecT V m → e = .returned (.tuple #[.int .i64 m, .bool true]) := fun m hm => by
    rcases hd with ⟨_, he⟩ | ⟨hn, _⟩
    · rw [he, hm.2]
    · exact absurd hm.1 hn
  have gen : ∃ n b, e = .returned (.tuple #[.int .i64 n, .bool b]) := by
    rcases hd with ⟨_, he⟩ | ⟨_, he⟩
    · exact ⟨_, _, he⟩
    · exact ⟨_, _, he⟩
  unfold ApOk at hap
  rcases hap with ⟨hk, h2⟩ | ⟨hk, h2⟩ | ⟨hk, h2⟩ | ⟨hk, h2⟩ | ⟨hk, h2⟩ | ⟨hk, h2⟩ | ⟨hk, h2⟩ | ⟨hk, h2⟩ | ⟨hk, h2⟩ | ⟨hk, h2⟩ | hk
  · obtain ⟨n, b, he⟩ := gen
    exact ⟨n, b, he, (fun e9 => absurd (hk.symm.trans e9) (by decide)), (fun e9 => absurd (hk.symm.trans e9) (by decide)), (fun e9 => absurd (hk.symm.trans e9) (by decide))⟩
  · obtain ⟨n, b, he⟩ := gen
    exact ⟨n, b, he, (fun e9 => absurd (hk.symm.trans e9) (by decide)), (fun e9 => absurd (hk.symm.trans e9) (by decide)), (fun e9 => absurd (hk.symm.trans e9) (by decide))⟩
  · obtain ⟨n, b, he⟩ := gen
    exact ⟨n, b, he, (fun e9 => absurd (hk.symm.trans e9) (by decide)), (fun e9 => absurd (hk.symm.trans e9) (by decide)), (fun e9 => absurd (hk.symm.trans e9) (by decide))⟩
  · obtain ⟨n, b, he⟩ := gen
    exact ⟨n, b, he, (fun e9 => absurd (hk.symm.trans e9) (by decide)), (fun e9 => absurd (hk.symm.trans e9) (by decide)), (fun e9 => absurd (hk.symm.trans e9) (by decide))⟩
  · exact ⟨_, _, key _ h2, (fun _ => ⟨rfl, rfl⟩), (fun e9 => absurd (hk.symm.trans e9) (by decide)), (fun e9 => absurd (hk.symm.trans e9) (by decide))⟩
  · exact ⟨_, _, key _ h2, (fun e9 => absurd (hk.symm.trans e9) (by decide)), (fun _ => ⟨rfl, rfl⟩), (fun e9 => absurd (hk.symm.trans e9) (by decide))⟩
  · exact ⟨_, _, key _ h2, (fun e9 => absurd (hk.symm.trans e9) (by decide)), (fun e9 => absurd (hk.symm.trans e9) (by decide)), (fun _ => ⟨rfl, rfl⟩)⟩
  · obtain ⟨n, b, he⟩ := gen
    exact ⟨n, b, he, (fun e9 => absurd (hk.symm.trans e9) (by decide)), (fun e9 => absurd (hk.symm.trans e9) (by decide)), (fun e9 => absurd (hk.symm.trans e9) (by decide))⟩
  · obtain ⟨n, b, he⟩ := gen
    exact ⟨n, b, he, (fun e9 => absurd (hk.symm.trans e9) (by decide)), (fun e9 => absurd (hk.symm.trans e9) (by decide)), (fun e9 => absurd (hk.symm.trans e9) (by decide))⟩
  · obtain ⟨n, b, he⟩ := gen
    exact ⟨n, b, he, (fun e9 => absurd (hk.symm.trans e9) (by decide)), (fun e9 => absurd (hk.symm.trans e9) (by decide)), (fun e9 => absurd (hk.symm.trans e9) (by decide))⟩
  · obtain ⟨n, b, he⟩ := gen
    exact ⟨n, b, he, (fun e9 => absurd hk (by rw [e9]; decide)), (fun e9 => absurd hk (by rw [e9]; decide)), (fun e9 => absurd hk (by rw [e9]; decide))⟩
theorem rdAp (h : Hd) (K V : ByteArray) (hap : ApOk h K V) (hs : V.size ≤ 2147483647) (w : World) : Calls Tryz.prog 35 #[.string V] w fun e w' => (∃ s n v, e = .returned (.tuple #[.agg #[.int .i64 s, .int .i64 n], .int .i64 v]) ∧ (K = kMt → s = h.ms ∧ n = h.mn ∧ v = 1) ∧ (K = kAt → s = h.as_ ∧ n = h.an ∧ v = 1) ∧ (K = kCt → s = h.cs ∧ n = h.cn ∧ v = 1)) ∧ Below w.heap.size w w' := by
  have gen := specTim V w hs
  unfold ApOk at hap
  rcases hap with ⟨hk, h2⟩ | ⟨hk, h2⟩ | ⟨hk, h2⟩ | ⟨hk, h2⟩ | ⟨hk, h2⟩ | ⟨hk, h2⟩ | ⟨hk, h2⟩ | ⟨hk, h2⟩ | ⟨hk, _, h2⟩ | ⟨hk, _, h2⟩ | hk
  · obtain ⟨s, n, v, hc, _⟩ := gen
    refine hc.mono ?_
    rintro e w' ⟨he, hw⟩
    exact ⟨⟨s, n, v, he, fun e9 => absurd (hk.symm.trans e9) (by decide), fun e9 => absurd (hk.symm.trans e9) (by decide), fun e9 => absurd (hk.symm.trans e9) (by decide)⟩, hw⟩
  · obtain ⟨s, n, v, hc, _⟩ := gen
    refine hc.mono ?_
    rintro e w' ⟨he, hw⟩
    exact ⟨⟨s, n, v, he, fun e9 => absurd (hk.symm.trans e9) (by decide), fun e9 => absurd (hk.symm.trans e9) (by decide), fun e9 => absurd (hk.symm.trans e9) (by decide)⟩, hw⟩
  · obtain ⟨s, n, v, hc, _⟩ := gen
    refine hc.mono ?_
    rintro e w' ⟨he, hw⟩
    exact ⟨⟨s, n, v, he, fun e9 => absurd (hk.symm.trans e9) (by decide), fun e9 => absurd (hk.symm.trans e9) (by decide), fun e9 => absurd (hk.symm.trans e9) (by decide)⟩, hw⟩
  · obtain ⟨s, n, v, hc, _⟩ := gen
    refine hc.mono ?_
    rintro e w' ⟨he, hw⟩
    exact ⟨⟨s, n, v, he, fun e9 => absurd (hk.symm.trans e9) (by decide), fun e9 => absurd (hk.symm.trans e9) (by decide), fun e9 => absurd (hk.symm.trans e9) (by decide)⟩, hw⟩
  · obtain ⟨s, n, v, hc, _⟩ := gen
    refine hc.mono ?_
    rintro e w' ⟨he, hw⟩
    exact ⟨⟨s, n, v, he, fun e9 => absurd (hk.symm.trans e9) (by decide), fun e9 => absurd (hk.symm.trans e9) (by decide), fun e9 => absurd (hk.symm.trans e9) (by decide)⟩, hw⟩
  · obtain ⟨s, n, v, hc, _⟩ := gen
    refine hc.mono ?_
    rintro e w' ⟨he, hw⟩
    exact ⟨⟨s, n, v, he, fun e9 => absurd (hk.symm.trans e9) (by decide), fun e9 => absurd (hk.symm.trans e9) (by decide), fun e9 => absurd (hk.symm.trans e9) (by decide)⟩, hw⟩
  · obtain ⟨s, n, v, hc, _⟩ := gen
    refine hc.mono ?_
    rintro e w' ⟨he, hw⟩
    exact ⟨⟨s, n, v, he, fun e9 => absurd (hk.symm.trans e9) (by decide), fun e9 => absurd (hk.symm.trans e9) (by decide), fun e9 => absurd (hk.symm.trans e9) (by decide)⟩, hw⟩
  · refine (h2 w).mono ?_
    rintro e w' ⟨he, hw⟩
    exact ⟨⟨_, _, _, he, fun _ => ⟨rfl, rfl, rfl⟩, fun e9 => absurd (hk.symm.trans e9) (by decide), fun e9 => absurd (hk.symm.trans e9) (by decide)⟩, hw⟩
  · refine (h2 w).mono ?_
    rintro e w' ⟨he, hw⟩
    exact ⟨⟨_, _, _, he, fun e9 => absurd (hk.symm.trans e9) (by decide), fun _ => ⟨rfl, rfl, rfl⟩, fun e9 => absurd (hk.symm.trans e9) (by decide)⟩, hw⟩
  · refine (h2 w).mono ?_
    rintro e w' ⟨he, hw⟩
    exact ⟨⟨_, _, _, he, fun e9 => absurd (hk.symm.trans e9) (by decide), fun e9 => absurd (hk.symm.trans e9) (by decide), fun _ => ⟨rfl, rfl, rfl⟩⟩, hw⟩
  · obtain ⟨s, n, v, hc, _⟩ := gen
    refine hc.mono ?_
    rintro e w' ⟨he, hw⟩
    exact ⟨⟨s, n, v, he, fun e9 => absurd hk (by rw [e9]; decide), fun e9 => absurd hk (by rw [e9]; decide), fun e9 => absurd hk (by rw [e9]; decide)⟩, hw⟩
theorem litEq {k : ByteArray} {l : List UInt8} {b : Bool} (h : (k.data.toList == l) = b) : (k.toList == l) = b := by rw [Lib.toList_data]; exact h
theorem bas_not {k : ByteArray} (h : bas k = false) {l : List UInt8} (hl : l ∈ basL) : (k.toList == l) = false := by
  rw [Lib.toList_data, beq_eq_false_iff_ne]
  intro e
  have : basL.contains (bl k) = true := by rw [List.contains_iff_mem]; show k.data.toList ∈ basL; rw [e]; exact hl
  unfold bas at h
  rw [this] at h
  cases h
/-- The header's box and the result's cell. -/
structure ApS (h : Hd) (H : Nat) (A : Option Addr) (n c : Nat) (w0 w : World) : Prop where
  hd : Blk w H 32 (h.wr A n c 2).cells
  res : ∃ r : List Value, r.length = 21 ∧ Blk w (H + 1) 32 r
  bel : Below w0.heap.size w0 w
  eq : w0.heap.size = H
section
variable {h : Hd} {H : Nat} {A : Option Addr} {n c : Nat} {w0 w w' : World}
theorem ApS.below (s : ApS h H A n c w0 w) (hb : Below w.heap.size w w') : ApS h H A n c w0 w' := by
  obtain ⟨r, r1, r2⟩ := s.res
  exact ⟨s.hd.below hb s.hd.lt, ⟨r, r1, r2.below hb r2.lt⟩, s.bel.trans (hb.mono s.bel.size), s.eq⟩
theorem ApS.alloc (s : ApS h H A n c w0 w) (o : Obj) : ApS h H A n c w0 (w.alloc o) := s.below ((Below.refl _ _).alloc (Nat.le_refl _) o)
theorem ApS.put (s : ApS h H A n c w0 w) (i : Nat) (v : Value) (hv : ((h.wr A n c 2).cells).set i v = (h.wr A n c 2).cells) : ApS h H A n c w0 (w.setCell ⟨H, i, none⟩ v) := by
  obtain ⟨r, r1, r2⟩ := s.res
  have h1 := s.hd.set_ i v
  rw [hv] at h1
  exact ⟨h1, ⟨r, r1, r2.far (by show H + 1 ≠ H; omega) _⟩, s.bel.setCell (by have := s.eq; show _ ≤ H; omega) _, s.eq⟩
end
def ApP (h : Hd) (A : Option Addr) (n c : Nat) (w : World) (e : Ending) (w' : World) : Prop := e = .returned (.tuple #[(h.wr A n c 2).val, .bool true]) ∧ Below w.heap.size w w'
set_option maxRecDepth 20000 in
set_option maxHeartbeats 6400000 in
theorem specApply (h : Hd) (A : Option Addr) (n c B : Nat) (l : List (ByteArray × ByteArray)) (w : World) (hn : l.length = n) (hr : RC w B A (recsV l)) (hB : B ≤ w.heap.size) (hl : n ≤ 8589934592) (hs : ∀ k, k < n → (rv l k).size ≤ 2147483647) (hap : ∀ k, k < n → ApOk h (rk l k) (rv l k)) :
    Calls Tryz.prog 12 #[h.val, .slice A n c] w (ApP h A n c w) := by
  have HR := Lib.hid hr
  have HN := Lib.hid hn
  have HAP := Lib.hid hap
  have HSZ := Lib.hid hs
  have HB0 : Hid (Blk ((w.alloc (.cells h.arr 32)).alloc (.cells hd0.cells.toArray 32)) w.heap.size 32 h.cells) := Lib.hid ((h.blk w _).alloc _)
  have HB1 : Hid (Blk ((w.alloc (.cells h.arr 32)).alloc (.cells hd0.cells.toArray 32)) (w.heap.size + 1) 32 hd0.cells) := Lib.hid (second_blk' w _ _ hd0.cells)
  have HW0 : Hid (Below w.heap.size w ((w.alloc (.cells h.arr 32)).alloc (.cells hd0.cells.toArray 32))) := Lib.hid (two_al' w _ _)
  unfold Hd.val
  have hz0 : (hd0.cells.toArray : Array Value) = #[.int .u8 0, .string { data := #[] }, .string { data := #[] }, .int .i64 0, .int .i64 0, .int .i64 0, .int .i64 0, .string { data := #[] }, .string { data := #[] }, .int .i64 0, .int .i64 0, .bool false, .bool false, .int .i64 0, .int .i64 0, .int .i64 0, .int .i64 0, .int .i64 0, .int .i64 0, .slice none 0 0, .int .i64 0] := rfl
  rw [hz0] at HB0 HB1 HW0
  clear hr hn hap hs hz0
  go_enter Tryz.func12, Tryz.ntmps12
  go_upto_region 1 with fail
  generalize (w.alloc (.cells h.arr 32)).alloc (.cells #[.int .u8 0, .string { data := #[] }, .string { data := #[] }, .int .i64 0, .int .i64 0, .int .i64 0, .int .i64 0, .string { data := #[] }, .string { data := #[] }, .int .i64 0, .int .i64 0, .bool false, .bool false, .int .i64 0, .int .i64 0, .int .i64 0, .int .i64 0, .int .i64 0, .int .i64 0, .slice none 0 0, .int .i64 0] 32) = w1 at HB0 HB1 HW0 ⊢
  obtain ⟨H, hH⟩ : ∃ H, w.heap.size = H := ⟨_, rfl⟩
  rw [hH] at HB0 HB1
  rw [hH]
  have HH := Lib.hid hH
  clear hH
  have k19 : w1.cell? ⟨H, 19, none⟩ = some (.slice h.rA h.rn h.rc) := HB0.out.cell 19
  have f19 := HB0.out.frozen 19
  have k20 : w1.cell? ⟨H, 20, none⟩ = some (.int .i64 h.fm) := HB0.out.cell 20
  have f20 := HB0.out.frozen 20
  have HS : Hid (ApS h H A n c w ((w1.setCell ⟨H, 19, none⟩ (.slice A n c)).setCell ⟨H, 20, none⟩ (.int .i64 2))) := Lib.hid ⟨(HB0.out.set_ 19 (.slice A n c)).set_ 20 (.int .i64 2), ⟨_, rfl, (HB1.out.far (by show H + 1 ≠ H; omega) _).far (by show H + 1 ≠ H; omega) _⟩, (HW0.out.setCell (by have := HH.out; show _ ≤ H; omega) _).setCell (by have := HH.out; show _ ≤ H; omega) _, HH.out⟩
  go_upto_region 2 with fail
  clear k19 f19 k20 f20 HB0 HB1 HW0
  generalize (w1.setCell ⟨H, 19, none⟩ (.slice A n c)).setCell ⟨H, 20, none⟩ (.int .i64 2) = w2 at HS ⊢
  go_wp2
  go_loopw [18] (fun i wr => ∃ k : Nat, k ≤ n ∧ i = .int .i64 k ∧ Hid (ApS h H A n c w wr)) (fun i _ => n - (intOf i).toNat)
  case atStart => exact ⟨0, by omega, rfl, HS⟩
  case round =>
    obtain ⟨k, hk, rfl, hS⟩ := hrel
    by_cases hlt : k < n
    · obtain ⟨b, off, rfl, _, hc1, hc2⟩ := (HR.out.below (hS.out.bel.mono hB)).rec_ (k := k) (by rw [HN.out]; exact hlt)
      obtain ⟨K, hK⟩ : ∃ K, rk l k = K := ⟨_, rfl⟩
      obtain ⟨V, hV⟩ : ∃ V, rv l k = V := ⟨_, rfl⟩
      rw [hK] at hc1
      rw [hV] at hc2
      have HOK : Hid (ApOk h K V) := Lib.hid (by rw [← hK, ← hV]; exact HAP.out k hlt)
      have HVS : Hid (V.size ≤ 2147483647) := Lib.hid (by rw [← hV]; exact HSZ.out k hlt)
      have HD := fun w => Lib.hid (decAp h K V HOK.out (by have := HVS.out; omega) w)
      have HT := fun w => Lib.hid (rdAp h K V HOK.out HVS.out w)
      have HRB : Hid (Blk (wr.alloc (.cells #[.string K, .string V] 60)) wr.heap.size 60 [.string K, .string V]) := Lib.hid (Blk.new wr _ _)
      have HS3 := Lib.hid (hS.out.alloc (.cells #[.string K, .string V] 60))
      clear hK hV
      go_upto_region 5 with fail
      generalize wr.alloc (.cells #[.string K, .string V] 60) = w3 at HRB HS3 ⊢
      obtain ⟨D, hD⟩ : ∃ D, wr.heap.size = D := ⟨_, rfl⟩
      rw [hD] at HRB
      rw [hD]
      clear hD hc1 hc2
      have r0 : w3.cell? ⟨D, 0, none⟩ = some (.string K) := HRB.out.cell 0
      have r1 : w3.cell? ⟨D, 1, none⟩ = some (.string V) := HRB.out.cell 1
      go_wp2_with fail
      refine (HD _).out.mono ?_
      rintro e w9 ⟨⟨dn, db, rfl, hdn⟩, hw9⟩
      subst hw9
      have HDN := Lib.hid hdn
      clear hdn
      go_wp2_with fail
      refine (HT _).out.mono ?_
      rintro e w4 ⟨⟨ts, tn, tv, rfl, htm⟩, hb4⟩
      have HTM := Lib.hid htm
      have HR4 := Lib.hid (HRB.out.below hb4 HRB.out.lt)
      have HS4 := Lib.hid (HS3.out.below hb4)
      clear htm hb4 r0 r1
      have HRT : Hid (Blk (w4.alloc (.cells #[.int .i64 ts, .int .i64 tn] 29)) D 60 [.string K, .string V]) := Lib.hid (HR4.out.alloc _)
      have HTT : Hid (Blk (w4.alloc (.cells #[.int .i64 ts, .int .i64 tn] 29)) w4.heap.size 29 [.int .i64 ts, .int .i64 tn]) := Lib.hid (Blk.new w4 _ _)
      have HS5 := Lib.hid (HS4.out.alloc (.cells #[.int .i64 ts, .int .i64 tn] 29))
      go_upto_region 7 with fail
      generalize w4.alloc (.cells #[.int .i64 ts, .int .i64 tn] 29) = w5 at HRT HTT HS5 ⊢
      obtain ⟨E, hE⟩ : ∃ E, w4.heap.size = E := ⟨_, rfl⟩
      rw [hE] at HTT
      rw [hE]
      clear hE HRB HS3 HR4 HS4 HD HT hS
      have r0 : w5.cell? ⟨D, 0, none⟩ = some (.string K) := HRT.out.cell 0
      have r1 : w5.cell? ⟨D, 1, none⟩ = some (.string V) := HRT.out.cell 1
      have t0 : w5.cell? ⟨E, 0, none⟩ = some (.int .i64 ts) := HTT.out.cell 0
      have t1 : w5.cell? ⟨E, 1, none⟩ = some (.int .i64 tn) := HTT.out.cell 1
      have hok := HOK.out
      unfold ApOk at hok
      rcases hok with ⟨hk9, h2⟩ | ⟨hk9, h2⟩ | ⟨hk9, h2⟩ | ⟨hk9, h2⟩ | ⟨hk9, h2⟩ | ⟨hk9, h2⟩ | ⟨hk9, h2⟩ | ⟨hk9, h2⟩ | ⟨hk9, h3, h2⟩ | ⟨hk9, h3, h2⟩ | hk9
      · have q0 : (K.toList == [112, 97, 116, 104]) = true := by rw [hk9]; exact litEq (by decide)
        have HS6 : Hid (ApS h H _ n c w (w5.setCell ⟨H, 1, none⟩ (.string V))) := Lib.hid (by rw [h2]; exact HS5.out.put 1 _ rfl)
        have c0 : w5.cell? ⟨H, 1, none⟩ = some (.string h.name) := HS5.out.hd.cell 1
        have g0 := HS5.out.hd.frozen 1
        clear h2 hk9
        go_wp2
        go_roundw
        case rel => exact ⟨k + 1, by omega, by go_num, HS6⟩
        case measure => simp [intOf]; omega
      · have q0 : (K.toList == [112, 97, 116, 104]) = false := by rw [hk9]; exact litEq (by decide)
        have q1 : (K.toList == [108, 105, 110, 107, 112, 97, 116, 104]) = true := by rw [hk9]; exact litEq (by decide)
        have HS6 : Hid (ApS h H _ n c w (w5.setCell ⟨H, 2, none⟩ (.string V))) := Lib.hid (by rw [h2]; exact HS5.out.put 2 _ rfl)
        have c0 : w5.cell? ⟨H, 2, none⟩ = some (.string h.link) := HS5.out.hd.cell 2
        have g0 := HS5.out.hd.frozen 2
        clear h2 hk9
        go_wp2
        go_roundw
        case rel => exact ⟨k + 1, by omega, by go_num, HS6⟩
        case measure => simp [intOf]; omega
      · have q0 : (K.toList == [112, 97, 116, 104]) = false := by rw [hk9]; exact litEq (by decide)
        have q1 : (K.toList == [108, 105, 110, 107, 112, 97, 116, 104]) = false := by rw [hk9]; exact litEq (by decide)
        have q2 : (K.toList == [117, 110, 97, 109, 101]) = true := by rw [hk9]; exact litEq (by decide)
        have HS6 : Hid (ApS h H _ n c w (w5.setCell ⟨H, 7, none⟩ (.string V))) := Lib.hid (by rw [h2]; exact HS5.out.put 7 _ rfl)
        have c0 : w5.cell? ⟨H, 7, none⟩ = some (.string h.un) := HS5.out.hd.cell 7
        have g0 := HS5.out.hd.frozen 7
        clear h2 hk9
        go_wp2
        go_roundw
        case rel => exact ⟨k + 1, by omega, by go_num, HS6⟩
        case measure => simp [intOf]; omega
      · have q0 : (K.toList == [112, 97, 116, 104]) = false := by rw [hk9]; exact litEq (by decide)
        have q1 : (K.toList == [108, 105, 110, 107, 112, 97, 116, 104]) = false := by rw [hk9]; exact litEq (by decide)
        have q2 : (K.toList == [117, 110, 97, 109, 101]) = false := by rw [hk9]; exact litEq (by decide)
        have q3 : (K.toList == [103, 110, 97, 109, 101]) = true := by rw [hk9]; exact litEq (by decide)
        have HS6 : Hid (ApS h H _ n c w (w5.setCell ⟨H, 8, none⟩ (.string V))) := Lib.hid (by rw [h2]; exact HS5.out.put 8 _ rfl)
        have c0 : w5.cell? ⟨H, 8, none⟩ = some (.string h.gn) := HS5.out.hd.cell 8
        have g0 := HS5.out.hd.frozen 8
        clear h2 hk9
        go_wp2
        go_roundw
        case rel => exact ⟨k + 1, by omega, by go_num, HS6⟩
        case measure => simp [intOf]; omega
      · have q0 : (K.toList == [112, 97, 116, 104]) = false := by rw [hk9]; exact litEq (by decide)
        have q1 : (K.toList == [108, 105, 110, 107, 112, 97, 116, 104]) = false := by rw [hk9]; exact litEq (by decide)
        have q2 : (K.toList == [117, 110, 97, 109, 101]) = false := by rw [hk9]; exact litEq (by decide)
        have q3 : (K.toList == [103, 110, 97, 109, 101]) = false := by rw [hk9]; exact litEq (by decide)
        have q4 : (K.toList == [115, 105, 122, 101]) = true := by rw [hk9]; exact litEq (by decide)
        obtain ⟨e1, e2⟩ := HDN.out.1 hk9
        subst e1 e2
        have HS6 := Lib.hid (HS5.out.put 3 (.int .i64 h.size) rfl)
        have c0 : w5.cell? ⟨H, 3, none⟩ = some (.int .i64 h.size) := HS5.out.hd.cell 3
        have g0 := HS5.out.hd.frozen 3
        clear h2 hk9
        go_wp2
        go_roundw
        case rel => exact ⟨k + 1, by omega, by go_num, HS6⟩
        case measure => simp [intOf]; omega
      · have q0 : (K.toList == [112, 97, 116, 104]) = false := by rw [hk9]; exact litEq (by decide)
        have q1 : (K.toList == [108, 105, 110, 107, 112, 97, 116, 104]) = false := by rw [hk9]; exact litEq (by decide)
        have q2 : (K.toList == [117, 110, 97, 109, 101]) = false := by rw [hk9]; exact litEq (by decide)
        have q3 : (K.toList == [103, 110, 97, 109, 101]) = false := by rw [hk9]; exact litEq (by decide)
        have q4 : (K.toList == [115, 105, 122, 101]) = false := by rw [hk9]; exact litEq (by decide)
        have q5 : (K.toList == [117, 105, 100]) = true := by rw [hk9]; exact litEq (by decide)
        obtain ⟨e1, e2⟩ := HDN.out.2.1 hk9
        subst e1 e2
        have HS6 := Lib.hid (HS5.out.put 5 (.int .i64 h.uid) rfl)
        have c0 : w5.cell? ⟨H, 5, none⟩ = some (.int .i64 h.uid) := HS5.out.hd.cell 5
        have g0 := HS5.out.hd.frozen 5
        clear h2 hk9
        go_wp2
        go_roundw
        case rel => exact ⟨k + 1, by omega, by go_num, HS6⟩
        case measure => simp [intOf]; omega
      · have q0 : (K.toList == [112, 97, 116, 104]) = false := by rw [hk9]; exact litEq (by decide)
        have q1 : (K.toList == [108, 105, 110, 107, 112, 97, 116, 104]) = false := by rw [hk9]; exact litEq (by decide)
        have q2 : (K.toList == [117, 110, 97, 109, 101]) = false := by rw [hk9]; exact litEq (by decide)
        have q3 : (K.toList == [103, 110, 97, 109, 101]) = false := by rw [hk9]; exact litEq (by decide)
        have q4 : (K.toList == [115, 105, 122, 101]) = false := by rw [hk9]; exact litEq (by decide)
        have q5 : (K.toList == [117, 105, 100]) = false := by rw [hk9]; exact litEq (by decide)
        have q6 : (K.toList == [103, 105, 100]) = true := by rw [hk9]; exact litEq (by decide)
        obtain ⟨e1, e2⟩ := HDN.out.2.2 hk9
        subst e1 e2
        have HS6 := Lib.hid (HS5.out.put 6 (.int .i64 h.gid) rfl)
        have c0 : w5.cell? ⟨H, 6, none⟩ = some (.int .i64 h.gid) := HS5.out.hd.cell 6
        have g0 := HS5.out.hd.frozen 6
        clear h2 hk9
        go_wp2
        go_roundw
        case rel => exact ⟨k + 1, by omega, by go_num, HS6⟩
        case measure => simp [intOf]; omega
      · have q0 : (K.toList == [112, 97, 116, 104]) = false := by rw [hk9]; exact litEq (by decide)
        have q1 : (K.toList == [108, 105, 110, 107, 112, 97, 116, 104]) = false := by rw [hk9]; exact litEq (by decide)
        have q2 : (K.toList == [117, 110, 97, 109, 101]) = false := by rw [hk9]; exact litEq (by decide)
        have q3 : (K.toList == [103, 110, 97, 109, 101]) = false := by rw [hk9]; exact litEq (by decide)
        have q4 : (K.toList == [115, 105, 122, 101]) = false := by rw [hk9]; exact litEq (by decide)
        have q5 : (K.toList == [117, 105, 100]) = false := by rw [hk9]; exact litEq (by decide)
        have q6 : (K.toList == [103, 105, 100]) = false := by rw [hk9]; exact litEq (by decide)
        have q7 : (K.toList == [109, 116, 105, 109, 101]) = true := by rw [hk9]; exact litEq (by decide)
        obtain ⟨e1, e2, e3⟩ := HTM.out.1 hk9
        subst e1 e2 e3
        have HS6 := Lib.hid ((HS5.out.put 9 (.int .i64 h.ms) rfl).put 10 (.int .i64 h.mn) rfl)
        have c0 : w5.cell? ⟨H, 9, none⟩ = some (.int .i64 h.ms) := HS5.out.hd.cell 9
        have g0 := HS5.out.hd.frozen 9
        have c1 : w5.cell? ⟨H, 10, none⟩ = some (.int .i64 h.mn) := HS5.out.hd.cell 10
        have g1 := HS5.out.hd.frozen 10
        clear h2 hk9
        go_wp2
        go_roundw
        case rel => exact ⟨k + 1, by omega, by go_num, HS6⟩
        case measure => simp [intOf]; omega
      · have q0 : (K.toList == [112, 97, 116, 104]) = false := by rw [hk9]; exact litEq (by decide)
        have q1 : (K.toList == [108, 105, 110, 107, 112, 97, 116, 104]) = false := by rw [hk9]; exact litEq (by decide)
        have q2 : (K.toList == [117, 110, 97, 109, 101]) = false := by rw [hk9]; exact litEq (by decide)
        have q3 : (K.toList == [103, 110, 97, 109, 101]) = false := by rw [hk9]; exact litEq (by decide)
        have q4 : (K.toList == [115, 105, 122, 101]) = false := by rw [hk9]; exact litEq (by decide)
        have q5 : (K.toList == [117, 105, 100]) = false := by rw [hk9]; exact litEq (by decide)
        have q6 : (K.toList == [103, 105, 100]) = false := by rw [hk9]; exact litEq (by decide)
        have q7 : (K.toList == [109, 116, 105, 109, 101]) = false := by rw [hk9]; exact litEq (by decide)
        have q8 : (K.toList == [97, 116, 105, 109, 101]) = true := by rw [hk9]; exact litEq (by decide)
        obtain ⟨e1, e2, e3⟩ := HTM.out.2.1 hk9
        subst e1 e2 e3
        have HS6 := Lib.hid (((HS5.out.put 13 (.int .i64 h.as_) rfl).put 14 (.int .i64 h.an) rfl).put 11 (.bool true) (by rw [← h3]; rfl))
        have c0 : w5.cell? ⟨H, 13, none⟩ = some (.int .i64 h.as_) := HS5.out.hd.cell 13
        have g0 := HS5.out.hd.frozen 13
        have c1 : w5.cell? ⟨H, 14, none⟩ = some (.int .i64 h.an) := HS5.out.hd.cell 14
        have g1 := HS5.out.hd.frozen 14
        have c2 : w5.cell? ⟨H, 11, none⟩ = some (.bool h.ha) := HS5.out.hd.cell 11
        have g2 := HS5.out.hd.frozen 11
        clear h3
        clear h2 hk9
        go_wp2
        go_roundw
        case rel => exact ⟨k + 1, by omega, by go_num, HS6⟩
        case measure => simp [intOf]; omega
      · have q0 : (K.toList == [112, 97, 116, 104]) = false := by rw [hk9]; exact litEq (by decide)
        have q1 : (K.toList == [108, 105, 110, 107, 112, 97, 116, 104]) = false := by rw [hk9]; exact litEq (by decide)
        have q2 : (K.toList == [117, 110, 97, 109, 101]) = false := by rw [hk9]; exact litEq (by decide)
        have q3 : (K.toList == [103, 110, 97, 109, 101]) = false := by rw [hk9]; exact litEq (by decide)
        have q4 : (K.toList == [115, 105, 122, 101]) = false := by rw [hk9]; exact litEq (by decide)
        have q5 : (K.toList == [117, 105, 100]) = false := by rw [hk9]; exact litEq (by decide)
        have q6 : (K.toList == [103, 105, 100]) = false := by rw [hk9]; exact litEq (by decide)
        have q7 : (K.toList == [109, 116, 105, 109, 101]) = false := by rw [hk9]; exact litEq (by decide)
        have q8 : (K.toList == [97, 116, 105, 109, 101]) = false := by rw [hk9]; exact litEq (by decide)
        have q9 : (K.toList == [99, 116, 105, 109, 101]) = true := by rw [hk9]; exact litEq (by decide)
        obtain ⟨e1, e2, e3⟩ := HTM.out.2.2 hk9
        subst e1 e2 e3
        have HS6 := Lib.hid (((HS5.out.put 15 (.int .i64 h.cs) rfl).put 16 (.int .i64 h.cn) rfl).put 12 (.bool true) (by rw [← h3]; rfl))
        have c0 : w5.cell? ⟨H, 15, none⟩ = some (.int .i64 h.cs) := HS5.out.hd.cell 15
        have g0 := HS5.out.hd.frozen 15
        have c1 : w5.cell? ⟨H, 16, none⟩ = some (.int .i64 h.cn) := HS5.out.hd.cell 16
        have g1 := HS5.out.hd.frozen 16
        have c2 : w5.cell? ⟨H, 12, none⟩ = some (.bool h.hc) := HS5.out.hd.cell 12
        have g2 := HS5.out.hd.frozen 12
        clear h3
        clear h2 hk9
        go_wp2
        go_roundw
        case rel => exact ⟨k + 1, by omega, by go_num, HS6⟩
        case measure => simp [intOf]; omega
      · have q0 : (K.toList == [112, 97, 116, 104]) = false := bas_not hk9 (by decide)
        have q1 : (K.toList == [108, 105, 110, 107, 112, 97, 116, 104]) = false := bas_not hk9 (by decide)
        have q2 : (K.toList == [117, 110, 97, 109, 101]) = false := bas_not hk9 (by decide)
        have q3 : (K.toList == [103, 110, 97, 109, 101]) = false := bas_not hk9 (by decide)
        have q4 : (K.toList == [115, 105, 122, 101]) = false := bas_not hk9 (by decide)
        have q5 : (K.toList == [117, 105, 100]) = false := bas_not hk9 (by decide)
        have q6 : (K.toList == [103, 105, 100]) = false := bas_not hk9 (by decide)
        have q7 : (K.toList == [109, 116, 105, 109, 101]) = false := bas_not hk9 (by decide)
        have q8 : (K.toList == [97, 116, 105, 109, 101]) = false := bas_not hk9 (by decide)
        have q9 : (K.toList == [99, 116, 105, 109, 101]) = false := bas_not hk9 (by decide)
        have HS6 := HS5
        clear hk9
        go_wp2
        go_roundw
        case rel => exact ⟨k + 1, by omega, by go_num, HS6⟩
        case measure => simp [intOf]; omega
    · obtain rfl : k = n := by omega
      obtain ⟨r, r1, r2⟩ := hS.out.res
      have HRR := Lib.hid r2
      have HR1 := Lib.hid r1
      clear r1 r2
      go_wp2_with (first
        | (refine wpList_load_row (o := ⟨some 95, _, _, _, _, _⟩) rfl 32 (.tmp 2) rfl H rfl 32 (h.wr A k c 2).arr (0, 0) _ hS.out.hd Tryz.underlying32 rfl (h.wr A k c 2).size_ ?_)
        | (refine wpList_store_row (o := ⟨none, _, _, _, _, _⟩) rfl 32 (.tmp 4) (.tmp 95) rfl (H + 1) (h.wr A k c 2).arr rfl rfl 32 r.toArray HRR.out (h.wr A k c 2).size_ (by rw [List.size_toArray, HR1.out]; rfl) (h.wr A k c 2).one_ ?_))
      refine bodyPost_ret (results_row_tmp1 rfl _ _ (H + 1) _ (h.wr A k c 2).cells _ rfl (setRow_blk _ _ _ _ _ HRR.out) Tryz.underlying32 rfl (h.wr A k c 2).size_) rfl ?_
      exact ⟨rfl, hS.out.bel.grown (setRow_grown _ _ _) hS.out.bel.size (by intro q hq; injection hq with hq; have := hS.out.eq; omega)⟩
end Go.Proofs.YtepeehjajhehfaaGreatDoor

