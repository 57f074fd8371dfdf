/- regFileWriter.Write and ZZEnd in one contract each. -/
import Derived.Test.YtiahifohkhdmdaaDoorRegW
namespace Go.Proofs.YtiahifohkhdmdaaDoor
open Go.RowKit Go.PlainAid
set_option linter.unusedVariables false

/-- What a call of Write hands back beside its number. -/
def endV (a : Addr) (long : Bool) : Value := if long then errV a else .nilIface
def endI (long : Bool) : Int := if long then 3 else 0

theorem zzEnd_any {B : Nat} (w : World) (l : Bool) {a b c : Addr} (ha : Err B w 2 a) (hb : Err B w 3 b) (hc : Err B w 1 c) (h1 : c ≠ a) (h2 : c ≠ b) :
    Calls Tryd.prog 28 #[endV c l] w fun e w' => e = .returned (.int .i64 (endI l)) ∧ w = w' := by
  cases l
  · exact zzEnd_nil w
  · exact zzEnd_long w ha hb hc h1 h2

theorem regWrite_any (F b B n c nb C : Nat) (A : Option Addr) (a : Addr) (ob ps : List UInt8) (w : World) (hF : Blk w F 68 (fwCells b nb)) (hb : Lib.IsBuffer 62 5 B b (bys ob) w) (hBF : B ≤ F) (hFb : F ≠ b) (hBw : B ≤ w.heap.size)
    (hn : ps.length = n) (hr : RB w w.heap.size A ps) (hA : ∀ ad, A = some ad → ad.block ≠ b) (hnil : A = none → c = 0) (hnc : n ≤ c) (hbig : n ≤ 1048576) (hnb2 : nb ≤ 9223372036854775807) (hlim : ob.length + min n nb ≤ 1048576)
    (hE : Err C w 1 a) (hC : C ≤ B) :
    Calls Tryd.prog 27 #[.pointer (some ⟨F, 0, none⟩), .slice A n c] w fun e w' => e = .returned (.tuple #[.int .i64 (min n nb : Nat), endV a (decide (nb < n))]) ∧
      Blk w' F 68 (fwCells b (nb - min n nb : Nat)) ∧ Lib.IsBuffer 62 5 B b (bys (ob ++ ps.take (min n nb))) w' ∧ Below B w w' ∧ KeptBut 5 b F w w' := by
  by_cases h0 : n = 0
  · subst h0
    refine (regWrite_none F b nb c A w hF).mono ?_
    rintro e w' ⟨rfl, rfl⟩
    refine ⟨?_, ?_, ?_, Below.refl _ _, KeptBut.refl _ _ _ _⟩
    · simp [endV]
    · simpa using hF
    · simpa using hb
  · obtain ⟨g, off, rfl, hg, hcell⟩ := hr (by omega)
    have hgb : g ≠ b := hA _ rfl
    by_cases h1 : n ≤ nb
    · refine (regWrite_fits F b B n c nb g off (bys ob) ps w hF hb hBF hFb hBw hn (fun i hi => hcell i (by omega)) hgb (by omega) h1 hnb2 (bys_one _) (by rw [length_bys]; omega)).mono ?_
      rintro e w' ⟨rfl, q1, q2, q3, q4⟩
      have hm : min n nb = n := by omega
      rw [hm]
      refine ⟨?_, ?_, ?_, q3, q4⟩
      · rw [show decide (nb < n) = false by simpa using h1]; rfl
      · have : ((nb - n : Nat) : Int) = (nb : Int) - n := by omega
        rw [this]; exact q1
      · rw [bys_append, List.take_of_length_le (by omega)]; exact q2
    · by_cases h2 : nb = 0
      · subst h2
        refine (regWrite_full F b n c C (some ⟨g, off, none⟩) a w hF (by omega) (by omega) (.inl (by simp)) hE).mono ?_
        rintro e w' ⟨rfl, rfl⟩
        have hm : min n 0 = 0 := by omega
        rw [hm]
        refine ⟨?_, hF, ?_, (Below.refl _ _).drew, fun _ _ _ _ _ _ h => h⟩
        · rw [show decide (0 < n) = true by simp; omega]; rfl
        · simpa using hb.drew
      · refine (regWrite_long F b B n c nb g C off a (bys ob) ps w hF hb hBF hFb hBw hn (fun i hi => hcell i (by omega)) hgb (by omega) (by omega) hnc (by omega) (bys_one _) (by rw [length_bys]; omega) hE hC).mono ?_
        rintro e w' ⟨rfl, q1, q2, q3, q4⟩
        have hm : min n nb = nb := by omega
        rw [hm, Nat.sub_self]
        refine ⟨?_, q1, ?_, q3, q4⟩
        · rw [show decide (nb < n) = true by simp; omega]; rfl
        · rw [bys_append]; exact q2
end Go.Proofs.YtiahifohkhdmdaaDoor
