/- Walks of slices.Clone, of the field's string, and of the law FnText. -/
import Derived.Test.YtepeehjajhehfaaGreatDoorRows
import Derived.Test.YtepeehjajhehfaaGreatDoorO
import Derived.Test.YtepeehjajhehfaaGreatDoorShelf
namespace Go.Proofs.YtepeehjajhehfaaGreatDoor
open Go.RowKit

theorem u8info : (Tryz.prog.info? 5).map (fun i => (i.zero, i.size, i.bytes)) = some (some (.int .u8 0), 1, 1) := by kernel_rfl
theorem u8size : (Tryz.prog.info? 5).map (·.size) = some 1 := by kernel_rfl

/-- A copy of the bytes bs in memory of the call's own. -/
def Cloned (n : Nat) (bs : List UInt8) (w : World) (en : Ending) (w' : World) : Prop :=
  ∃ v, en = .returned v ∧ w'.ownsRow w.heap.size 5 1 v n (bys bs) ∧ Below w.heap.size w w'

/-! ### The string of a field -/
/-- Where the first byte 0 is. -/
def fz (bs : List UInt8) : Nat := bs.findIdx (· == 0)
def txt (bs : List UInt8) : List UInt8 := bs.take (fz bs)
theorem fz_le (bs : List UInt8) : fz bs ≤ bs.length := List.findIdx_le_length
theorem fz_eq (bs : List UInt8) (k : Nat) (hk : k < bs.length) (h0 : byt bs k = 0) (h : ∀ i, i < k → byt bs i ≠ 0) : fz bs = k := by
  unfold fz
  rw [List.findIdx_eq (by exact hk)]
  have e : ∀ i (hi : i < bs.length), byt bs i = (bs[i].toNat : Int) := fun i hi => by simp [byt, List.getD, hi]
  refine ⟨?_, fun j hj => ?_⟩
  · rw [e k hk] at h0
    have : bs[k].toNat = (0 : UInt8).toNat := by simpa using h0
    simp [UInt8.toNat_inj.1 this]
  · have := h j hj
    rw [e j (by omega)] at this
    have h2 : bs[j] ≠ 0 := fun h3 => this (by rw [h3]; rfl)
    simpa using h2
theorem fz_all (bs : List UInt8) (h : ∀ i, i < bs.length → byt bs i ≠ 0) : fz bs = bs.length := by
  unfold fz
  rw [List.findIdx_eq_length]
  intro x hx
  obtain ⟨i, hi, rfl⟩ := List.getElem_of_mem hx
  have := h i hi
  simp only [byt, List.getD, List.getElem?_eq_getElem hi, Option.getD_some] at this
  have h2 : bs[i] ≠ 0 := fun h3 => this (by rw [h3]; rfl)
  simpa using h2
theorem indexByte_fz : ∀ bs : List UInt8, Lib.indexByte bs 0 = if fz bs < bs.length then (fz bs : Int) else -1
  | [] => rfl
  | b :: bs => by
    rw [Lib.indexByte, indexByte_fz bs]
    have hc : fz (b :: bs) = if (b == 0) = true then 0 else fz bs + 1 := by
      unfold fz; rw [List.findIdx_cons]; by_cases h : (b == 0) = true <;> simp [h]
    have := fz_le bs
    by_cases h : (b == 0) = true
    · rw [if_pos h] at hc
      rw [hc, if_pos h, if_pos (by simp)]
      rfl
    · rw [if_neg h] at hc
      rw [hc, if_neg h]
      have hl : (b :: bs).length = bs.length + 1 := rfl
      by_cases h2 : fz bs < bs.length
      · have h3 : ((fz bs : Int) == -1) = false := by rw [beq_eq_false_iff_ne]; omega
        rw [if_pos h2, if_pos (show fz bs + 1 < (b :: bs).length by omega), h3]
        simp
      · rw [if_neg h2, if_neg (show ¬ fz bs + 1 < (b :: bs).length by omega)]
        rfl

theorem nz_succ {bs : List UInt8} {k : Nat} (h : ∀ i, i < k → byt bs i ≠ 0) (h0 : ¬ byt bs k = 0) : ∀ i, i < k + 1 → byt bs i ≠ 0 := by
  intro i hi
  by_cases h1 : i < k
  · exact h i h1
  · obtain rfl : i = k := by omega
    exact h0

theorem bytesOf_bs (bs : List UInt8) : Lib.bytesOf (bs.map fun b => (b.toNat : Int)) = bs := by
  unfold Lib.bytesOf
  rw [List.map_map]
  conv => rhs; rw [← List.map_id bs]
  apply List.map_congr_left
  intro b _
  simp
theorem indexByte_any (A : Option Addr) (n c B : Nat) (bs : List UInt8) (w : World) (hn : bs.length = n) (hr : RB w B A bs) (hc : A = none → c = 0) :
    Calls Tryz.prog 133 #[.slice A n c, .int .u8 0] w fun e w' => e = .returned (.int .i64 (if fz bs < n then (fz bs : Int) else -1)) ∧ w = w' := by
  cases A with
  | none =>
    have h0 : bs = [] := by
      rcases Nat.eq_zero_or_pos bs.length with h | h
      · exact List.eq_nil_of_length_eq_zero h
      · obtain ⟨_, _, h, _⟩ := hr h
        cases h
    subst h0
    obtain rfl : n = 0 := by simpa using hn.symm
    obtain rfl := hc rfl
    exact (Tryz.bytes_IndexByte_nil 0 w).mono fun e w' ⟨h1, h2⟩ => ⟨by rw [h1]; rfl, h2.symm⟩
  | some ad =>
    refine (Tryz.bytes_IndexByte_at ad n c (bs.map fun b => (b.toNat : Int)) 0 w (by simpa using hn) (fun i hi => ?_)).mono fun e w' ⟨h1, h2⟩ => ⟨?_, h2.symm⟩
    · obtain ⟨b, off, hA, _, hcell⟩ := hr (by omega)
      obtain rfl := Option.some.inj hA
      rw [Addr.add_lit, hcell i (by omega)]
      simp [byt, List.getD, show i < bs.length by omega]
    · rw [h1, bytesOf_bs]
      have : (0 : Int).toNat.toUInt8 = 0 := rfl
      rw [this, indexByte_fz, hn]

set_option maxRecDepth 20000 in
set_option maxHeartbeats 400000 in
theorem parseString_any (p : Value) (A : Option Addr) (n c B : Nat) (bs : List UInt8) (w : World) (hn : bs.length = n) (hr : RB w B A bs) (hc : A = none → c = 0) (hnc : n ≤ c) :
    Calls Tryz.prog 111 #[p, .slice A n c] w fun e w' => e = .returned (.string (mkS (txt bs))) ∧ w = w' := by
  have HI := Lib.hid (indexByte_any A n c B bs w hn hr hc)
  have HN := Lib.hid hn
  have HR := Lib.hid hr
  have HRT := Lib.hid (hr.take (fz bs))
  have hle := fz_le bs
  by_cases h : fz bs < n
  · rw [if_pos h] at HI
    have HT : Hid ((bs.take (fz bs)).length = fz bs) := by show _ = _; rw [List.length_take]; omega
    clear hn hr hc
    go_enter Tryz.func111, Tryz.ntmps111
    go_wp2_with (first
      | (go_at_call 133; refine HI.out.mono ?_; rintro e w' ⟨rfl, rfl⟩)
      | (refine wpList_conv_bytes (o := ⟨some 13, _, _, _, _, _⟩) _ rfl (.tmp 12) 35 9 5 rfl Tryz.underlying35 Tryz.underlying5 Tryz.underlying9 A (fz bs) c B (bs.take (fz bs)) rfl HT.out HRT.out ?_))
    go_ret
    exact ⟨rfl, rfl⟩
  · rw [if_neg h] at HI
    have HT : Hid (bs = txt bs) := by show _ = _; unfold txt; rw [List.take_of_length_le (by omega)]
    clear hn hr hc
    go_enter Tryz.func111, Tryz.ntmps111
    go_wp2_with (first
      | (go_at_call 133; refine HI.out.mono ?_; rintro e w' ⟨rfl, rfl⟩)
      | (refine wpList_conv_bytes (o := ⟨some 15, _, _, _, _, _⟩) _ rfl (.tmp 14) 35 9 5 rfl Tryz.underlying35 Tryz.underlying5 Tryz.underlying9 A n c B bs rfl HN.out HR.out ?_))
    go_ret
    refine ⟨?_, rfl⟩
    conv => rhs; rw [← HT.out]
    rfl

theorem zero_parser (w : World) : (zeroValue 120).run Tryz.prog w = .ok (.agg #[.nilIface]) w := by kernel_rfl

end Go.Proofs.YtepeehjajhehfaaGreatDoor
