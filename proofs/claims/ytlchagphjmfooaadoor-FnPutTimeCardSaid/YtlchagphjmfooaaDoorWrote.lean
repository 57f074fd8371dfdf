/- A written record is a record by the documents, whatever stands behind it: plain words. -/
import Derived.Test.YtlchagphjmfooaaDoorIsRead
namespace Go.Proofs.YtlchagphjmfooaaDoor
open Go.RowKit Go.PlainAid
set_option linter.unusedVariables false

def KeyOk (k : ByteArray) : Prop := k.size ≠ 0 ∧ ¬ fc 61 k < k.size
theorem sz_list (s : ByteArray) : s.data.toList.length = s.size := (Lib.size_eq s).symm
theorem fc_none (c : UInt8) (s : ByteArray) (h : ¬ fc c s < s.size) : ∀ x ∈ s.data.toList, x ≠ c := by
  intro x hx e
  have h1 : s.data.toList.findIdx (· == c) < s.data.toList.length := List.findIdx_lt_length_of_exists ⟨x, hx, by simp [e]⟩
  apply h
  rw [sz_list] at h1
  exact h1
theorem Wrote.isRec {s : ByteArray} {N : Nat} {k v : ByteArray} (H : Wrote s N k v) (hk : KeyOk k) (hN : N ≤ 9223372036854775807) (b : ByteArray) : IsRec (s ++ b) (numB N) N (k ++ ⟨#[61]⟩ ++ v) k v b := by
  have hR := recR_size k v
  have hl := H.len
  have hp := numL_pos N
  have hsz : (s ++ b).size = N + b.size := by rw [ByteArray.size_append, H.size]
  have hfc : Go.Proofs.YtlchagphjmfooaaDoor.fc 32 (s ++ b) = (numL N).length := H.fc
  have hnb : (numB N).size = (numL N).length := numB_size N
  have hlist := H.list (b := b)
  have hk0 : 0 < k.size := by have := hk.1; omega
  have hmid : k ++ ⟨#[61]⟩ ++ v = (s ++ b).extract ((numB N).size + 1) (N - 1) := by
    apply ba_ext
    rw [Lib.extract_data, hlist, hnb, app_list, app_list]
    have e1 : (numL N ++ 32 :: (k.data.toList ++ 61 :: (v.data.toList ++ [10]) ++ b.data.toList)).drop ((numL N).length + 1) = k.data.toList ++ 61 :: (v.data.toList ++ [10]) ++ b.data.toList := by
      rw [← List.drop_drop]; simp
    rw [e1]
    have e2 : N - 1 - ((numL N).length + 1) = (k.data.toList ++ [61] ++ v.data.toList).length := by
      simp only [List.length_append, sz_list, List.length_singleton]
      omega
    rw [e2]
    have e3 : k.data.toList ++ 61 :: (v.data.toList ++ [10]) ++ b.data.toList = (k.data.toList ++ [61] ++ v.data.toList) ++ ([10] ++ b.data.toList) := by simp
    rw [e3, List.take_left' rfl]
  have hfm : Go.Proofs.YtlchagphjmfooaaDoor.fc 61 (k ++ ⟨#[61]⟩ ++ v) = k.size := by
    unfold Go.Proofs.YtlchagphjmfooaaDoor.fc
    rw [app_list, app_list, List.append_assoc]
    have := findIdx_pre k.data.toList v.data.toList 61 (fc_none 61 k hk.2)
    rw [sz_list] at this
    exact this
  have hms : (k ++ ⟨#[61]⟩ ++ v).size = k.size + 1 + v.size := by
    rw [ByteArray.size_append, ByteArray.size_append]; rfl
  refine ⟨by omega, H.head.symm, ?_, ⟨by omega, ?_, ?_, ?_⟩, ?_, by omega, by omega, ?_, hmid, by omega, by omega, ?_, ?_, H.rest.symm⟩
  · obtain ⟨c, r, e, a1, a2⟩ := numL_head N (by omega)
    obtain ⟨c', e1, e2⟩ := bt_of (numB N) 0 (by omega)
    rw [numB_list, e] at e1
    obtain rfl : c = c' := by simpa using e1
    unfold headBad
    omega
  · rw [hnb]; exact numL_le19 hN
  · rw [numB_list]; exact numL_dig N
  · rw [numB_list, numL_vl]; exact hN
  · rw [numB_list, numL_vl]
  · obtain ⟨c, e1, e2⟩ := bt_of (s ++ b) (N - 1) (by omega)
    rw [hlist] at e1
    have e3 : numL N ++ 32 :: (k.data.toList ++ 61 :: (v.data.toList ++ [10]) ++ b.data.toList) = (numL N ++ [32] ++ k.data.toList ++ [61] ++ v.data.toList) ++ (10 :: b.data.toList) := by simp
    have e4 : (numL N ++ [32] ++ k.data.toList ++ [61] ++ v.data.toList).length = N - 1 := by
      simp only [List.length_append, sz_list, List.length_singleton]
      omega
    rw [e3, List.getElem?_append_right (by omega), e4, Nat.sub_self] at e1
    obtain rfl : (10 : UInt8) = c := by simpa using e1
    exact e2
  · rw [hfm]
    apply ba_ext
    rw [Lib.extract_data, app_list, app_list, List.drop_zero, List.append_assoc, Nat.sub_zero]
    rw [← sz_list k, List.take_left' rfl]
  · rw [hfm, hms]
    apply ba_ext
    rw [Lib.extract_data, app_list, app_list]
    have e5 : k.size + 1 = (k.data.toList ++ [61]).length := by simp
    have e6 : (⟨#[61]⟩ : ByteArray).data.toList = [61] := rfl
    rw [e6, e5, List.drop_left' rfl, ← e5]
    rw [show k.size + 1 + v.size - (k.size + 1) = v.data.toList.length by rw [sz_list]; omega, List.take_length]
theorem Wrote.readV {s : ByteArray} {N : Nat} {k v : ByteArray} (H : Wrote s N k v) (hk : KeyOk k) (hN : N ≤ 9223372036854775807) (b : ByteArray) : Go.Proofs.YtlchagphjmfooaaDoor.readV (s ++ b) = ⟨k, v, b, 1⟩ := readV_of (H.isRec hk hN b)
end Go.Proofs.YtlchagphjmfooaaDoor
