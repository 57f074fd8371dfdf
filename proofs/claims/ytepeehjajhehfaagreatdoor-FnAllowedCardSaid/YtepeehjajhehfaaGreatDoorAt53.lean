/- allowedFormats: the records that came in. -/
import Derived.Test.YtepeehjajhehfaaGreatDoorMA9
import Derived.Deep.CutBlock
import Derived.Deep.DeepCutAuto
import Derived.Deep.RegionHeld3
import Derived.RegionTactic
namespace Go.Proofs.YtepeehjajhehfaaGreatDoor
open Go.RowKit Go.PlainAid Go.Maps Go.ChangeMaps Go.MapKept Go.WideMaps
set_option linter.unusedVariables false
set_option linter.unusedSimpArgs false

/-- Has a record been looked at, then it is laid, unless its key is one of the fields' or one of GNU.sparse. -/
def Seen (L : List (ByteArray × ByteArray)) (R : List (ByteArray × ByteArray)) (left : Lit → Bool) : Prop := ∀ x ∈ tab R, left (.string (bl x.1)) = false → bas x.1 = false → spk x.1 = false → ∃ v, (x.1, v) ∈ L
/-- What is laid of the records. -/
def Laid (h : Hd) (mx an ax cn cx : Int) (R L : List (ByteArray × ByteArray)) : Prop := ∀ x ∈ L, FE h mx an ax cn cx x ∨ (x ∈ tab R ∧ bas x.1 = false ∧ spk x.1 = false)
theorem Seen.skip {L R : List (ByteArray × ByteArray)} {left : Lit → Bool} {k : ByteArray} (s : Seen L R left) (h : ∀ x ∈ tab R, x.1 = k → bas x.1 = false → spk x.1 = false → ∃ v, (x.1, v) ∈ L) : Seen L R (fun z => left z && !z.sameKey (.string (bl k))) := fun y hy hl h1 h2 => by
  by_cases he : y.1 = k
  · exact h y hy he h1 h2
  · refine s y hy ?_ h1 h2
    have hl9 : (left (.string (bl y.1)) && !(Lit.string (bl y.1)).sameKey (.string (bl k))) = false := hl
    rw [sameKey_ne (fun e => he (bl_inj (by injection e))), Bool.not_false, Bool.and_true] at hl9
    exact hl9
theorem Seen.more {L R : List (ByteArray × ByteArray)} {left : Lit → Bool} {x : ByteArray × ByteArray} (s : Seen L R left) : Seen (L ++ [x]) R left := fun y hy hl h1 h2 => by
  obtain ⟨v, hv⟩ := s y hy hl h1 h2
  exact ⟨v, List.mem_append.2 (.inl hv)⟩
set_option maxRecDepth 20000 in
set_option maxHeartbeats 32000000 in
theorem tail53 (X : Array Value) (h : Hd) (mx an ax cn cx : Int) (pm : Option Nat) (R : List (ByteArray × ByteArray)) (B : Nat) (w wc : World) (x16 : ByteArray) (u p g : Bool) (L : List (ByteArray × ByteArray)) (u18 u19 u20 u21 u22 u23 u24 u25 u26 u27 u28 u29 u30 u31 u32 u33 u34 u35 u36 u37 u38 u39 u40 u41 u42 u43 u44 u45 u46 u47 u48 u49 u50 u51 u52 u53 u54 u55 u56 u57 u58 u59 u60 u61 u62 u63 u64 u65 u66 u67 u68 u69 u70 u71 u72 u73 u74 u75 u76 u77 u78 u79 u80 u81 u82 u83 u84 u85 u86 u87 u88 u89 u90 u91 u92 u93 u94 u95 u96 u97 u98 u99 u100 u101 u102 u103 u104 u105 u106 u107 u108 u109 u110 u111 u112 u113 u114 u115 u116 u117 u118 u119 u120 u121 u122 u123 u124 u125 u126 u127 u128 u129 u130 u131 u132 u133 u134 u135 u136 u137 u138 u139 u140 u141 u142 u143 u144 u145 u146 u147 u148 u149 u150 u151 u152 u153 u154 u155 u156 u157 u158 u159 u160 u161 u162 u163 u164 u165 u166 u167 u168 u169 u170 u171 u172 u173 u174 u175 u176 u177 u178 u179 u180 u181 u182 u183 u184 u185 u186 u187 u188 u189 u190 u191 u192 u193 u194 u195 u196 u197 u198 u199 u200 u201 u202 u203 u204 u205 u206 u207 u208 u209 u210 u211 u212 u213 u214 u215 u216 u217 u218 u219 u220 u221 u222 u223 u224 u225 u226 u227 u228 u229 u230 u231 u232 u233 u234 u235 u236 u237 u238 u239 u240 u241 u242 u243 u244 u245 u246 u247 u248 u249 u250 u251 u252 u253 u254 u255 u256 u257 u258 u259 u260 u261 u262 u263 u264 u265 u266 u267 u268 u269 u270 u271 u272 u273 u274 u275 u276 u277 u278 u279 u280 u281 u282 u283 u284 u285 u286 u287 u288 u289 u290 u291 u292 : Value) (hB : w.heap.size = B) (hT : ¬ TyErr h) (hN : ¬ (hoB h.ty = false ∧ h.size < 0)) (hS : AF B (h.tcells mx an ax cn cx pm) pm R u p g L w wc) (hL : L.length ≤ 26 ∧ ∀ y ∈ L, FR h mx an ax cn cx R y) (hK : ∀ y, FE h mx an ax cn cx y → y.1.size ≤ 4000000000 ∧ y.2.size ≤ 4000000000) (hsz : ∀ x ∈ L, x.1.size ≤ 4000000000 ∧ x.2.size ≤ 4000000000) (hRs : ∀ x ∈ R, x.1.size ≤ 2147483647 ∧ x.2.size ≤ 2147483647) (hRl : R.length ≤ 2147483647) (hRn : ∀ q, pm = some q → R ≠ []) (hBK : BK B w) (hu : u = UF h mx an ax cn cx) (hp : p = PF h) (hg : g = GF h mx an ax cn cx) :
    (restAl 29).wp Tryz.prog (bodyPost Tryz.prog Tryz.f51 (AllP h mx an ax cn cx R w)) ⟨((.agg X :: .pointer (some ⟨B, 0, none⟩) :: .pointer (some ⟨B + 1, 0, none⟩) :: .pointer (some ⟨B + 2, 0, none⟩) :: .nilIface :: .pointer (some ⟨B + 4, 0, none⟩) :: .pointer (some ⟨B + 5, 0, none⟩) :: .pointer (some ⟨B + 6, 0, none⟩) :: .pointer (some ⟨B + 7, 0, none⟩) :: .func (.func 71) #[] #[.pointer (some ⟨B + 6, 0, none⟩), .pointer (some ⟨B + 1, 0, none⟩), .pointer (some ⟨B + 4, 0, none⟩), .pointer (some ⟨B + 5, 0, none⟩), .pointer (some ⟨B + 2, 0, none⟩), .pointer (some ⟨B, 0, none⟩)] :: .func (.func 76) #[] #[.pointer (some ⟨B + 6, 0, none⟩), .pointer (some ⟨B + 1, 0, none⟩), .pointer (some ⟨B + 4, 0, none⟩), .pointer (some ⟨B + 5, 0, none⟩), .pointer (some ⟨B + 2, 0, none⟩), .pointer (some ⟨B, 0, none⟩)] :: .func (.func 80) #[] #[.pointer (some ⟨B + 6, 0, none⟩), .pointer (some ⟨B + 1, 0, none⟩), .pointer (some ⟨B + 4, 0, none⟩), .pointer (some ⟨B + 7, 0, none⟩), .pointer (some ⟨B + 5, 0, none⟩), .pointer (some ⟨B + 2, 0, none⟩), .pointer (some ⟨B, 0, none⟩)] :: .pointer (some ⟨B + 8, 0, none⟩) :: .pointer (some ⟨B + 8, 0, none⟩) :: .pointer (some ⟨B + 8, 0, none⟩) :: .pointer (some ⟨B + 8, 0, none⟩) :: .string x16 :: .string ⟨#[]⟩ :: u18 :: u19 :: u20 :: u21 :: u22 :: u23 :: u24 :: u25 :: u26 :: u27 :: u28 :: u29 :: u30 :: u31 :: u32 :: u33 :: u34 :: u35 :: u36 :: u37 :: u38 :: u39 :: u40 :: u41 :: u42 :: u43 :: u44 :: u45 :: u46 :: u47 :: u48 :: u49 :: u50 :: u51 :: u52 :: u53 :: u54 :: u55 :: u56 :: u57 :: u58 :: u59 :: u60 :: u61 :: u62 :: u63 :: u64 :: u65 :: u66 :: u67 :: u68 :: u69 :: u70 :: u71 :: u72 :: u73 :: u74 :: u75 :: u76 :: u77 :: u78 :: u79 :: u80 :: u81 :: u82 :: u83 :: u84 :: u85 :: u86 :: u87 :: u88 :: u89 :: u90 :: u91 :: u92 :: u93 :: u94 :: u95 :: u96 :: u97 :: u98 :: u99 :: u100 :: u101 :: u102 :: u103 :: u104 :: u105 :: u106 :: u107 :: u108 :: u109 :: u110 :: u111 :: u112 :: u113 :: u114 :: u115 :: u116 :: u117 :: u118 :: u119 :: u120 :: u121 :: u122 :: u123 :: u124 :: u125 :: u126 :: u127 :: u128 :: u129 :: u130 :: u131 :: u132 :: u133 :: u134 :: u135 :: u136 :: u137 :: u138 :: u139 :: u140 :: u141 :: u142 :: u143 :: u144 :: u145 :: u146 :: u147 :: u148 :: u149 :: u150 :: u151 :: u152 :: u153 :: u154 :: u155 :: u156 :: u157 :: u158 :: u159 :: u160 :: u161 :: u162 :: u163 :: u164 :: u165 :: u166 :: u167 :: u168 :: u169 :: u170 :: u171 :: u172 :: u173 :: u174 :: u175 :: u176 :: u177 :: u178 :: u179 :: u180 :: u181 :: u182 :: u183 :: u184 :: u185 :: u186 :: u187 :: u188 :: u189 :: u190 :: u191 :: u192 :: u193 :: u194 :: u195 :: u196 :: u197 :: u198 :: u199 :: u200 :: u201 :: u202 :: u203 :: u204 :: u205 :: u206 :: u207 :: u208 :: u209 :: u210 :: u211 :: u212 :: u213 :: u214 :: u215 :: u216 :: u217 :: u218 :: u219 :: u220 :: u221 :: u222 :: u223 :: u224 :: u225 :: u226 :: u227 :: u228 :: u229 :: u230 :: u231 :: u232 :: u233 :: u234 :: u235 :: u236 :: u237 :: u238 :: u239 :: u240 :: u241 :: u242 :: u243 :: u244 :: u245 :: u246 :: u247 :: u248 :: u249 :: u250 :: u251 :: u252 :: u253 :: u254 :: u255 :: u256 :: u257 :: u258 :: u259 :: u260 :: u261 :: u262 :: u263 :: u264 :: u265 :: u266 :: u267 :: u268 :: u269 :: u270 :: u271 :: u272 :: u273 :: u274 :: u275 :: u276 :: u277 :: u278 :: u279 :: u280 :: u281 :: u282 :: u283 :: u284 :: u285 :: u286 :: u287 :: u288 :: u289 :: u290 :: u291 :: u292 :: []) : List Value).toArray, []⟩ wc := by
  conv in (restAl 29) => whnf
  have HS := Lib.hid hS
  have HBB := Lib.hid hB
  have HTY := Lib.hid hT
  have HNS := Lib.hid hN
  have HL := Lib.hid hL
  have HK := Lib.hid hK
  have HRS := Lib.hid hRs
  have HSZ := Lib.hid hsz
  have HBK := Lib.hid hBK
  have HRL := Lib.hid hRl
  have HU := Lib.hid hu
  have HP := Lib.hid hp
  have HG := Lib.hid hg
  have hRN := hRn
  obtain ⟨t, ht⟩ : ∃ t, h.ty = t := ⟨_, rfl⟩
  have HTT := Lib.hid ht
  have q103 : (t == 103) = false := by rw [beq_eq_false_iff_ne]; intro e; exact hT (by unfold TyErr; omega)
  have c18 := hS.c18
  have HMB : Hid (∀ y ∈ L, FR h mx an ax cn cx R y) := Lib.hid hL.2
  clear hT hN hL hK hRs hRl hBK hu hp hg hsz
  rcases hS.hr with ⟨hpm, hR⟩ | ⟨q, nn, hpm, hq, ho⟩
  · rw [hpm] at c18
    have HRE := Lib.hid hR
    have HPM := Lib.hid hpm
    clear hS hB hR hpm hRN hRn ht
    go_upto_if 196 with (at_len; refine wpList_len_nil _ rfl _ 72 rfl 9 9 Tryz.underlying72 rfl ?_)
    rename_i kT hK
    go_cut [16] (fun a wx => a = .string x16 ∧ Hid (wc = wx))
    case first => as_aux_lemma =>
      rename_i jN kN gN1 gN2; repeat (rename_i hh; clear hh); try (rename_i kX1; have := kX1; clear this; repeat (rename_i hh; clear hh)); try (rename_i kX2; have := kX2; clear this; repeat (rename_i hh; clear hh)); try (rename_i kX3; have := kX3; clear this; repeat (rename_i hh; clear hh)); try (rename_i kX4; have := kX4; clear this; repeat (rename_i hh; clear hh)); try (rename_i kX5; have := kX5; clear this; repeat (rename_i hh; clear hh)); try (rename_i kX6; have := kX6; clear this; repeat (rename_i hh; clear hh))
      clear hK
      go_wp2_with fail
      go_meet
      case rel => exact ⟨rfl, Lib.hid rfl⟩
    case rest => as_aux_lemma =>
      obtain ⟨rfl, hw⟩ := hcut
      obtain rfl := hw.out
      have HLE : LE h mx an ax cn cx R L := ⟨fun x hx => HMB.out x hx, fun x hx => by rw [HRE.out] at hx; exact absurd hx (by simp [tab]), by have := HL.out.1; omega⟩
      exact hK _ _ (tail65 X h mx an ax cn cx pm R B w _ x16 u p g L _ _ _ _ _ _ _ _ _ _ _ _ _ _ _ _ _ _ _ _ _ _ _ _ _ _ _ _ _ _ _ _ _ _ _ _ _ _ _ _ _ _ _ _ _ _ _ _ _ _ _ _ _ _ _ _ _ _ _ _ _ _ _ _ _ _ _ _ _ _ _ _ _ _ _ _ _ _ _ _ _ _ _ _ _ _ _ _ _ _ _ _ _ _ _ _ _ _ _ _ _ _ _ _ _ _ _ _ _ _ _ _ _ _ _ _ _ _ _ _ _ _ _ _ _ _ _ _ _ _ _ _ _ _ _ _ _ _ _ _ _ _ _ _ _ _ _ _ _ _ _ _ _ _ _ _ _ _ _ _ _ _ _ _ _ _ _ _ _ _ _ _ _ _ _ _ _ _ _ _ _ _ _ _ _ _ _ _ _ _ _ _ _ _ _ _ _ _ _ _ _ _ _ _ _ _ _ _ _ _ _ _ _ _ _ _ _ _ _ _ _ _ _ _ _ _ _ _ _ _ _ _ _ _ _ _ _ _ _ _ _ _ _ _ _ _ _ _ _ _ _ _ _ _ _ _ _ _ _ _ _ _ _ _ _ _ _ _ _ _ _ _ _ _ _ HBB.out HTY.out HNS.out HS.out HLE HSZ.out (by rw [HRE.out]; exact HU.out) HP.out (by rw [HRE.out]; exact HG.out))
  · rw [hpm] at c18
    have HPM := Lib.hid hpm
    have HRN : Hid (R ≠ []) := Lib.hid (hRN q hpm)
    have HSP : Hid (0 < Maps.size (mapOf R)) := Lib.hid (size_pos' HRN.out)
    obtain ⟨sz, hsz⟩ : ∃ sz, Maps.size (mapOf R) = sz := ⟨_, rfl⟩
    have HSZ2 := Lib.hid hsz
    rw [hsz] at HSP
    have z1 : (0 : Int) < (sz : Int) := by have := HSP.out; omega
    have z2 : 0 < sz := HSP.out
    have HO := Lib.hid ho
    have HQ := Lib.hid hq
    have HLT := Lib.hid hS.lt
    clear hS hB hpm hRN hRn ho hq ht
    go_upto_if 196 with (at_len; refine wpList_len_own _ rfl _ 72 rfl 9 9 Tryz.underlying72 _ q nn _ rfl HO.out ?_; rw [hsz])
    clear hsz
    rename_i kT hK
    go_cut [16] (fun a wx => ∃ L1, (∃ x : ByteArray, a = .string x) ∧ Hid (AF B (h.tcells mx an ax cn cx pm) pm R false p false L1 w wx) ∧ Hid (LE h mx an ax cn cx R L1))
    case first => as_aux_lemma =>
      rename_i jN kN gN1 gN2; repeat (rename_i hh; clear hh); try (rename_i kX1; have := kX1; clear this; repeat (rename_i hh; clear hh)); try (rename_i kX2; have := kX2; clear this; repeat (rename_i hh; clear hh)); try (rename_i kX3; have := kX3; clear this; repeat (rename_i hh; clear hh)); try (rename_i kX4; have := kX4; clear this; repeat (rename_i hh; clear hh)); try (rename_i kX5; have := kX5; clear this; repeat (rename_i hh; clear hh)); try (rename_i kX6; have := kX6; clear this; repeat (rename_i hh; clear hh))
      clear hK
      go_upto_block 3 with (at_range; refine wpList_range_own _ rfl _ 72 rfl 9 9 strKeyed Tryz.underlying72 _ q nn _ rfl HO.out ?_; intro w0 hrg0 hg0 hs0)
      try go_frame
      rename_i kI hI
      have HS0 := Lib.hid (HS.out.grown hg0 (fun k hk => by cases hk))
      have HRG0 := Lib.hid hrg0
      have HSR : Hid (Maps.size (mapOf R) ≤ R.length) := Lib.hid (by rw [tab_map, size_eq, List.length_map]; exact tab_len R)
      clear hrg0 hg0 hs0 c18
      go_cut [] (fun wx => ∃ L1, Hid (AF B (h.tcells mx an ax cn cx pm) pm R u p g L1 w wx) ∧ Hid (LE h mx an ax cn cx R L1))
      case first => as_aux_lemma =>
        rename_i jN kN gN1 gN2; repeat (rename_i hh; clear hh); try (rename_i kX1; have := kX1; clear this; repeat (rename_i hh; clear hh)); try (rename_i kX2; have := kX2; clear this; repeat (rename_i hh; clear hh)); try (rename_i kX3; have := kX3; clear this; repeat (rename_i hh; clear hh)); try (rename_i kX4; have := kX4; clear this; repeat (rename_i hh; clear hh)); try (rename_i kX5; have := kX5; clear this; repeat (rename_i hh; clear hh)); try (rename_i kX6; have := kX6; clear this; repeat (rename_i hh; clear hh))
        clear hI
        go_wp2_with fail
        go_loopw [21] (fun _ wr => ∃ (left : Lit → Bool) (cnt : Nat) (L1 : List (ByteArray × ByteArray)), Hid (wr.ranges (H := Unit) Tryz.prog 9 (plainElem Tryz.prog 9) q wc.heap.size nn (mapOf R) left cnt) ∧ Hid (AF B (h.tcells mx an ax cn cx pm) pm R u p g L1 w wr) ∧ Hid (Laid h mx an ax cn cx R L1) ∧ Hid (Seen L1 R left) ∧ L1.length + cnt ≤ 26 + R.length) (fun _ wr => wr.rangeLeft q wc.heap.size)
        case atStart => exact ⟨_, _, L, HRG0, HS0, Lib.hid (fun x hx => HMB.out x hx), Lib.hid (fun x hx hl => absurd ((has_mapOf R x.1).2 ⟨x, mem_tab hx, rfl⟩) (by rw [hl]; decide)), by have h8 := HL.out.1; have h9 := HSR.out; omega⟩
        case round =>
          obtain ⟨left, cnt, L1, hrg, hA, hLd, hSn, hln⟩ := hrel
          have HLN := Lib.hid hln
          clear hln
          go_wp2_with (at_next; refine wpList_next_ranges_ss _ rfl _ rfl q wc.heap.size nn _ _ _ rfl hrg.out ?_ ?_)
          · intro hc0 hl0
            have HLE : Hid (LE h mx an ax cn cx R L1) := Lib.hid ⟨hLd.out, fun x hx => hSn.out x hx (hl0 _), by have := HLN.out; omega⟩
            clear hc0 hl0
            go_wp2_with fail
            go_meet
            case rel => exact ⟨L1, hA, HLE⟩
          · intro x c w1 cnt1 hxs hcs hlx hat hrg1 hlt hg1 hs1 hen
            have HM := Lib.hid (mem_of_at hat)
            obtain ⟨y1, y2⟩ : x.size ≤ 2147483647 ∧ c.size ≤ 2147483647 := HRS.out (x, c) (mem_tab HM.out)
            have HA1 := Lib.hid (hA.out.grown hg1 (fun k hk => by cases hk; have := HLT.out; omega))
            have HRG1 := Lib.hid hrg1
            have HLT1 := Lib.hid hlt
            have HMS : Hid (wr.rangeLeft q wc.heap.size = cnt) := Lib.hid hrg.out.left_eq
            have HKX := Lib.hid (keyOf_string_mk Tryz.underlying9 (s := x) hxs)
            have HVX := Lib.hid (plainElem_string (H := Unit) Tryz.underlying9 (s := c) hcs)
            obtain ⟨qb, hqb⟩ := HBK.out
            obtain ⟨g8, g9⟩ := hqb w1 HA1.out.bel
            have HLK := Lib.hid (g9 x hxs)
            obtain ⟨k2, f2⟩ := HA1.out.c2
            have c0 : w1.cell? ⟨B, 0, none⟩ = some (.int .u8 t) := by rw [← HTT.out]; exact HA1.out.hd.cell 0
            clear hat hrg1 hg1 hs1 hlx hlt hqb g9
            go_upto_region 58 with (at_lookup; refine wpList_lookup_own_okstr _ rfl _ _ 72 rfl 9 9 strKeyed Tryz.underlying72 Tryz.underlying9 (zeroStr _) (B + 3) L1.length _ rfl HA1.out.ow _ _ rfl HKX.out ?_; intro s2 ok hok hat2 hs2; have HOK := Lib.hid hok; clear hok hat2 hs2)
            cases ok with
            | true =>
              have HSN1 : Hid (Seen L1 R (fun z => left z && !z.sameKey (.string (bl x)))) := Lib.hid (hSn.out.skip (fun y hy he _ _ => by
                obtain ⟨v, hv, ev⟩ := (has_mapOf L1 x).1 HOK.out.symm
                rw [he, ← ev]
                exact ⟨v.2, hv⟩))
              go_wp2_with fail
              go_roundw
              case rel => exact ⟨_, cnt1, L1, HRG1, HA1, hLd, HSN1, by have h8 := HLN.out; have h9 := HLT1.out; omega⟩
              case measure => rw [HRG1.out.left_eq, HMS.out]; exact HLT1.out
            | false =>
              have HLX := HLK.out
              obtain ⟨bb, hbb⟩ : ∃ bb, bas x = bb := ⟨_, rfl⟩
              have HBX := Lib.hid hbb
              rw [hbb] at HLX
              clear hbb
              cases bb with
              | true =>
                have HSN1 : Hid (Seen L1 R (fun z => left z && !z.sameKey (.string (bl x)))) := Lib.hid (hSn.out.skip (fun y hy he h1 _ => by rw [he, HBX.out] at h1; cases h1))
                go_wp2_with fail
                go_roundw
                case rel => exact ⟨_, cnt1, L1, HRG1, HA1, hLd, HSN1, by have h8 := HLN.out; have h9 := HLT1.out; omega⟩
                case measure => rw [HRG1.out.left_eq, HMS.out]; exact HLT1.out
              | false =>
                obtain ⟨bp, hbp⟩ : ∃ bp, spk x = bp := ⟨_, rfl⟩
                have HPX := Lib.hid hbp
                have HHP : ∀ w, Hid (Calls Tryz.prog 103 #[.string x, .string ⟨#[71, 78, 85, 46, 115, 112, 97, 114, 115, 101, 46]⟩] w fun e w' => e = .returned (.bool bp) ∧ w = w') := fun w => Lib.hid (by have h9 := hasPre x w (by omega); rw [hbp] at h9; exact h9)
                clear hbp
                go_upto_if 220 with (go_at_call 103; refine (HHP _).out.mono ?_; rintro e w' ⟨rfl, hw9⟩; subst hw9)
                cases bp with
                | true =>
                  have HSN1 : Hid (Seen L1 R (fun z => left z && !z.sameKey (.string (bl x)))) := Lib.hid (hSn.out.skip (fun y hy he _ h2 => by rw [he, HPX.out] at h2; cases h2))
                  go_wp2_with fail
                  go_roundw
                  case rel => exact ⟨_, cnt1, L1, HRG1, HA1, hLd, HSN1, by have h8 := HLN.out; have h9 := HLT1.out; omega⟩
                  case measure => rw [HRG1.out.left_eq, HMS.out]; exact HLT1.out
                | false =>
                  have HSN1 : Hid (Seen (L1 ++ [(x, c)]) R (fun z => left z && !z.sameKey (.string (bl x)))) := Lib.hid (hSn.out.more.skip (fun y hy he _ _ => ⟨c, by rw [he]; simp⟩))
                  have HLD1 : Hid (Laid h mx an ax cn cx R (L1 ++ [(x, c)])) := Lib.hid (fun y hy => by
                    rcases List.mem_append.1 hy with hy | hy
                    · exact hLd.out y hy
                    · rw [List.mem_singleton] at hy
                      subst hy
                      exact .inr ⟨HM.out, HBX.out, HPX.out⟩)
                  have HRLE : Hid (L1.length < maxLen) := Lib.hid (by have h8 := HLN.out; have h9 := HRL.out; unfold maxLen; omega)
                  have HQB : Hid (q ≠ B + 3 ∧ wc.heap.size ≠ B + 3) := Lib.hid (by have h8 := HQ.out; have h9 := HLT.out; omega)
                  go_wp2_with (at_mapUpdate; refine wpList_mapUpdate_own _ rfl _ _ _ 72 rfl 9 9 strKeyed Tryz.underlying72 _ (B + 3) L1.length _ rfl HA1.out.ow HRLE.out _ _ _ rfl rfl HKX.out _ [] HVX.out ?_; intro w6 ho6 hg6; have HA6 := Lib.hid (HA1.out.upd (L' := L1 ++ [(x, c)]) hg6 (by rw [mapOf_snoc, List.length_append]; exact ho6)); have HRG6 := Lib.hid (HRG1.out.kept hg6 (fun e => HQB.out.1 (Option.some.inj e)) (fun e => HQB.out.2 (Option.some.inj e))); clear ho6 hg6; try go_frame)
                  go_roundw
                  case rel => exact ⟨_, cnt1, L1 ++ [(x, c)], HRG6, HA6, HLD1, HSN1, by rw [List.length_append, List.length_singleton]; have h8 := HLN.out; have h9 := HLT1.out; omega⟩
                  case measure => rw [HRG6.out.left_eq, HMS.out]; exact HLT1.out
      case rest => as_aux_lemma =>
        obtain ⟨L1, HS2, HLE⟩ := hcut
        go_wp2_with fail
        refine (onlyPax (B + 1) u p g _ HS2.out.c1.1 HS2.out.c1.2).mono ?_
        rintro e w' ⟨rfl, hw9⟩
        have HS3 := Lib.hid (HS2.out.fset false p false)
        rw [hw9] at HS3
        clear hw9
        go_wp2_with fail
        go_meet
        case rel => exact ⟨L1, ⟨_, rfl⟩, HS3, HLE⟩
    case rest => as_aux_lemma =>
      obtain ⟨L1, ⟨x17, rfl⟩, HS2, HLE⟩ := hcut
      have hRE : R.isEmpty = false := by
        have h9 := HRN.out
        cases R with
        | nil => exact absurd rfl h9
        | cons a b => rfl
      have hLs : ∀ x ∈ L1, x.1.size ≤ 4000000000 ∧ x.2.size ≤ 4000000000 := fun x hx => by
        rcases HLE.out.src x hx with h9 | ⟨h9, _, _⟩
        · exact HK.out x h9
        · obtain ⟨a1, a2⟩ := HRS.out x (mem_tab h9)
          exact ⟨by omega, by omega⟩
      exact hK _ _ (tail65 X h mx an ax cn cx pm R B w _ x17 false p false L1 _ _ _ _ _ _ _ _ _ _ _ _ _ _ _ _ _ _ _ _ _ _ _ _ _ _ _ _ _ _ _ _ _ _ _ _ _ _ _ _ _ _ _ _ _ _ _ _ _ _ _ _ _ _ _ _ _ _ _ _ _ _ _ _ _ _ _ _ _ _ _ _ _ _ _ _ _ _ _ _ _ _ _ _ _ _ _ _ _ _ _ _ _ _ _ _ _ _ _ _ _ _ _ _ _ _ _ _ _ _ _ _ _ _ _ _ _ _ _ _ _ _ _ _ _ _ _ _ _ _ _ _ _ _ _ _ _ _ _ _ _ _ _ _ _ _ _ _ _ _ _ _ _ _ _ _ _ _ _ _ _ _ _ _ _ _ _ _ _ _ _ _ _ _ _ _ _ _ _ _ _ _ _ _ _ _ _ _ _ _ _ _ _ _ _ _ _ _ _ _ _ _ _ _ _ _ _ _ _ _ _ _ _ _ _ _ _ _ _ _ _ _ _ _ _ _ _ _ _ _ _ _ _ _ _ _ _ _ _ _ _ _ _ _ _ _ _ _ _ _ _ _ _ _ _ _ _ _ _ _ _ _ _ _ _ _ _ _ _ _ _ _ _ _ _ HBB.out HTY.out HNS.out HS2.out HLE.out hLs (by rw [hRE]; rfl) HP.out (by rw [hRE]; rfl))
end Go.Proofs.YtepeehjajhehfaaGreatDoor
