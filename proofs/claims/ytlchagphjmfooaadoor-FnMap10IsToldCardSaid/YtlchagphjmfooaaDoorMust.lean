/- tryReadFull and mustReadFull over a bytes.Reader, into an array of 512 bytes. -/
import Derived.Test.YtlchagphjmfooaaDoorRdB
import Derived.Test.YtlchagphjmfooaaDoorPax
namespace Go.Proofs.YtlchagphjmfooaaDoor
open Go.RowKit Go.PlainAid
set_option linter.unusedVariables false

theorem nilBr (f b : Nat) (w : World) : (nilAhead (f + 1) 126 (.pointer (some ⟨b, 0, none⟩)) "Read").run Tryd.prog w = .ok (some false) w := by kernel_rfl
/-- How far a read of 512 bytes comes. -/
structure TryAt (T : TypeId) (Br g : Nat) (D : List UInt8) (i : Nat) (w w' : World) : Prop where
  br : BrAt Br (D.drop i) w'
  blk : ∃ cur : List UInt8, cur.length = 512 ∧ Blk w' g T (bys cur) ∧ cur.take i = D.take i
  far : Far [Br, g] w w'
theorem TryAt.step {T : TypeId} {Br g i m : Nat} {D cur : List UInt8} {w wr w' : World} (h : TryAt T Br g D i w wr) (hc : cur.length = 512) (hp : cur.take i = D.take i) (hm : ((D.drop i).take (512 - i)).length = m) (hi : i ≤ D.length) (hi5 : i ≤ 512)
    (hb : BrAt Br ((D.drop i).drop m) w') (hg : Blk w' g T (bys (splice cur i ((D.drop i).take (512 - i))))) (hf : Far [Br, g] wr w') : TryAt T Br g D (i + m) w w' := by
  have hml : m ≤ 512 - i := by rw [← hm, List.length_take]; omega
  refine ⟨by rw [List.drop_drop] at hb; exact hb, ⟨_, ?_, hg, ?_⟩, h.far.trans hf⟩
  · unfold splice
    simp only [List.length_append, List.length_take, List.length_drop, hc]
    have := hm
    rw [List.length_take, List.length_drop] at this
    omega
  · unfold splice
    rw [hp, ← take_drop_app D i m (512 - i) hm hi]
    have e1 : (D.take i ++ (D.drop i).take (512 - i)).length = i + m := by rw [List.length_append, hm, List.length_take]; omega
    rw [← List.append_assoc, ← e1]
    exact List.take_left
set_option maxRecDepth 20000 in
set_option maxHeartbeats 3200000 in
/-- tryReadFull: how many bytes, and io.EOF if they were too few. -/
theorem tryRead {a : Addr} (T : TypeId) (Br g : Nat) (cur0 D : List UInt8) (w : World) (hb : BrAt Br D w) (hg : Blk w g T (bys cur0)) (hc0 : cur0.length = 512) (hne : Br < g) (hE : Err Br w 2 a) :
    Calls Tryd.prog 100 #[.iface 126 (.pointer (some ⟨Br, 0, none⟩)), .slice (some ⟨g, 0, none⟩) 512 512] w fun e w' => ∃ i : Nat, i = min 512 D.length ∧ e = .returned (.tuple #[.int .i64 i, if i = 512 then .nilIface else errV a]) ∧ TryAt T Br g D i w w' := by
  have hbl := hb.lt
  have H0 : Hid (TryAt T Br g D 0 w w) := Lib.hid ⟨hb, ⟨cur0, hc0, hg, by simp⟩, Far.refl _ _⟩
  have HE := Lib.hid hE
  have hn := fun f => nilBr f Br
  have hme := methBr Br
  have hneq := fun w => run_eql_nil_nil_at (P := Tryd.prog) (w := w) 105 isErr
  have hneq2 := fun w x => run_eql_iface_nil (P := Tryd.prog) (w := w) 105 isErr 226 x
  clear hb hg hc0 hE
  go_enter Tryd.func100, Tryd.ntmps100
  go_wp2_with fail
  go_loopw [4, 5] (fun iv ev wr => ∃ i : Nat, i ≤ min 512 D.length ∧ iv = .int .i64 i ∧ ((ev = .nilIface) ∨ (ev = errV a ∧ i = D.length ∧ i < 512)) ∧ Hid (TryAt T Br g D i w wr)) (fun iv ev _ => 2 * (512 - (intOf iv).toNat) + (match ev with | .nilIface => 1 | _ => 0))
  case atStart => exact ⟨0, by omega, rfl, .inl rfl, H0⟩
  case round =>
    obtain ⟨i, hi, rfl, hev, hT⟩ := hrel
    obtain ⟨cur, hcl, hcb, hcp⟩ := hT.out.blk
    have HCB := Lib.hid hcb
    have HCP := Lib.hid hcp
    have HCL := Lib.hid hcl
    have hEw := HE.out.below (hT.out.far.below (B := Br) (fun k hk => by simp at hk; omega) (by omega)) (Nat.le_refl _)
    have HEW := Lib.hid hEw
    have k1 := hEw.cell
    have hgl := HCB.out.lt
    clear hcb hcp hcl hEw
    rcases hev with rfl | ⟨rfl, hiD, hi5⟩
    · by_cases h5 : i = 512
      · subst h5
        have hql := fun w => run_eql_iface_nil_left (P := Tryd.prog) (w := w) 226 (.pointer (some a)) Tryd.underlying105
        unfold errV at k1
        go_wp2
        go_ret2
        exact ⟨512, by omega, rfl, hT.out⟩
      · by_cases hd : i < D.length
        · obtain ⟨m, hm⟩ : ∃ m, ((D.drop i).take (512 - i)).length = m := ⟨_, rfl⟩
          have hm2 : m = min (512 - i) (D.length - i) := by rw [← hm, List.length_take, List.length_drop]
          have hm0 : 0 < m := by omega
          have HR : Hid (∀ w0, w0 = wr ∨ w0 = wr.drew → Calls Tryd.prog 178 #[.pointer (some ⟨Br, 0, none⟩), .slice (some ⟨g, i, none⟩) (512 - i) (512 - i)] w0 fun e w' => e = .returned (.tuple #[.int .i64 m, .nilIface]) ∧ TryAt T Br g D (i + m) w w') := Lib.hid (fun w0 h0 => by
            refine (bytesReadA T Br g i (512 - i) (512 - i) m cur (D.drop i) w0 (or_w (P := BrAt Br (D.drop i)) h0 hT.out.br (hT.out.br.below (Below.refl wr.heap.size wr).drew (by omega))) (or_w (P := fun w => Blk w g T (bys cur)) h0 HCB.out (HCB.out.drewN 1)) hne hm hm0 (by rw [HCL.out]; omega) (Nat.le_refl _) (by omega)).mono ?_
            rintro e w' ⟨h1, h2, h3, h4⟩
            have hf : Far [Br, g] wr w' := (or_w (P := fun w0 => Far [Br, g] wr w0) h0 (Far.refl _ _) (Far.refl _ _).drew).trans h4
            exact ⟨h1, hT.out.step HCL.out HCP.out hm (by omega) (by omega) h2 h3 hf⟩)
          have u1 : ¬ (512 : Nat) = i := by omega
          have u2 : (0 : Int) ≤ (i : Int) := by omega
          have u3 : (i : Int) ≤ 512 := by omega
          have u4 : (i : Int) < 512 := by omega
          have u5 : IntKind.i64.wrap ((i : Int) + (m : Int)) = ((i + m : Nat) : Int) := by rw [IntWalk.i64_in _ (by omega)]; omega
          clear hm
          go_wp2_with fail
          go_region_with (go_at_call 178; refine (HR.out _ (by first | exact .inl rfl | exact .inr rfl)).mono ?_; rintro e w' ⟨rfl, hst⟩)
          have HST := Lib.hid hst
          clear hst
          go_wp2
          go_roundw
          case rel => exact ⟨i + m, by omega, by go_num, .inl rfl, HST⟩
          case measure => simp [intOf]; omega
        · obtain rfl : i = D.length := by omega
          have HR : Hid (∀ w0, w0 = wr ∨ w0 = wr.drew → Calls Tryd.prog 178 #[.pointer (some ⟨Br, 0, none⟩), .slice (some ⟨g, D.length, none⟩) (512 - D.length) (512 - D.length)] w0 fun e w' => e = .returned (.tuple #[.int .i64 0, errV a]) ∧ TryAt T Br g D D.length w w') := Lib.hid (fun w0 h0 => by
            have hbr : BrAt Br [] wr := by have h := hT.out.br; rwa [List.drop_length] at h
            refine (bytesReadE Br (some ⟨g, D.length, none⟩) (512 - D.length) (512 - D.length) w0 (or_w (P := BrAt Br []) h0 hbr (hbr.below (Below.refl wr.heap.size wr).drew (by omega))) (or_w (P := fun w => Err Br w 2 a) h0 HEW.out (HEW.out.below ((Below.refl Br wr).drew) (Nat.le_refl _)))).mono ?_
            rintro e w' ⟨h1, q, rfl⟩
            refine ⟨h1, ?_⟩
            have hf : Far [Br, g] wr (w0.drewN q) := (or_w (P := fun w0 => Far [Br, g] wr w0) h0 (Far.refl _ _) (Far.refl _ _).drew).drewN q
            have hb0 : Blk (w0.drewN q) g T (bys cur) := (or_w (P := fun w => Blk w g T (bys cur)) h0 HCB.out (HCB.out.drewN 1)).drewN q
            have hr0 : BrAt Br (D.drop D.length) (w0.drewN q) := hT.out.br.below (below_drewN (or_w (P := fun w0 => Below wr.heap.size wr w0) h0 (Below.refl _ _) (Below.refl _ _).drew) q) (by omega)
            exact ⟨hr0, ⟨cur, HCL.out, hb0, HCP.out⟩, hT.out.far.trans hf⟩)
          unfold errV at HR
          have u1 : ¬ (512 : Nat) = D.length := by omega
          have u2 : (0 : Int) ≤ (D.length : Int) := by omega
          have u3 : (D.length : Int) ≤ 512 := by omega
          have u4 : (D.length : Int) < 512 := by omega
          go_wp2_with fail
          go_region_with (go_at_call 178; refine (HR.out _ (by first | exact .inl rfl | exact .inr rfl)).mono ?_; rintro e w' ⟨rfl, hst⟩)
          have HST := Lib.hid hst
          clear hst
          go_wp2
          go_roundw
          case rel => exact ⟨D.length, by omega, by go_num, .inr ⟨rfl, rfl, by omega⟩, HST⟩
          case measure => simp [intOf]
    · subst hiD
      have hle : min 512 D.length = D.length := by omega
      have u1 : ¬ (512 : Int) = (D.length : Int) := by omega
      have u4 : (D.length : Int) < 512 := by omega
      unfold errV
      go_wp2
      go_ret2
      exact ⟨D.length, by omega, by rw [if_neg (by omega)]; rfl, hT.out⟩
set_option maxRecDepth 20000 in
set_option maxHeartbeats 1600000 in
theorem mustRead {a b : Addr} (T : TypeId) (Br g : Nat) (cur0 D : List UInt8) (w : World) (hb : BrAt Br D w) (hg : Blk w g T (bys cur0)) (hc0 : cur0.length = 512) (hne : Br < g) (hE : Err Br w 2 a) (hE2 : Err Br w 3 b) :
    Calls Tryd.prog 86 #[.iface 126 (.pointer (some ⟨Br, 0, none⟩)), .slice (some ⟨g, 0, none⟩) 512 512] w fun e w' =>
      (512 ≤ D.length ∧ e = .returned (.tuple #[.int .i64 512, .nilIface]) ∧ BrAt Br (D.drop 512) w' ∧ Blk w' g T (bys (D.take 512)) ∧ Far [Br, g] w w') ∨
      (D.length < 512 ∧ ∃ i : Nat, e = .returned (.tuple #[.int .i64 i, errV b]) ∧ Far [Br, g] w w') := by
  have hbl := hb.lt
  have HT := Lib.hid (tryRead T Br g cur0 D w hb hg hc0 hne hE)
  have HE := Lib.hid hE
  have HE2 := Lib.hid hE2
  clear hb hg hc0 hE hE2
  go_enter Tryd.func86, Tryd.ntmps86
  go_wp2_with fail
  refine HT.out.mono ?_
  rintro e w1 ⟨i, hi, rfl, ht⟩
  have HTR := Lib.hid ht
  have hlow := ht.far.below (B := Br) (fun k hk => by simp at hk; omega) (by omega)
  have k1 := (HE.out.below hlow (Nat.le_refl _)).cell
  have k2 := (HE2.out.below hlow (Nat.le_refl _)).cell
  clear ht hlow HT
  by_cases h5 : i = 512
  · subst h5
    have hD : 512 ≤ D.length := by omega
    clear hi
    have hql := fun w => run_eql_iface_nil_left (P := Tryd.prog) (w := w) 226 (.pointer (some a)) Tryd.underlying105
    have HB : Hid (Blk w1 g T (bys (D.take 512))) := Lib.hid (by
      obtain ⟨cur, h1, h2, h3⟩ := HTR.out.blk
      rw [List.take_of_length_le (by omega)] at h3
      rwa [← h3])
    unfold errV at k1
    rw [if_pos rfl]
    go_wp2
    go_ret2
    exact .inl ⟨hD, rfl, HTR.out.br, HB.out, HTR.out.far⟩
  · have hD : D.length < 512 := by omega
    clear hi
    have heq := fun w => err_eq w a
    unfold errV at k1 k2 heq
    rw [if_neg h5]
    unfold errV
    go_wp2
    go_ret2
    exact .inr ⟨hD, i, rfl, HTR.out.far⟩
end Go.Proofs.YtlchagphjmfooaaDoor
