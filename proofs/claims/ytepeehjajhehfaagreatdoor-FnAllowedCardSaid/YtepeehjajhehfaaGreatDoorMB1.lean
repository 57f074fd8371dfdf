/- allowedFormats: Xattrs: none. allowedFormats: the size. -/
import Derived.Test.YtepeehjajhehfaaGreatDoorAt53
import Derived.Deep.CutBlock
import Derived.Deep.DeepCutAuto
import Derived.Deep.RegionHeld3
import Derived.RegionTactic
namespace Go.Proofs.YtepeehjajhehfaaGreatDoor
open Go.RowKit Go.PlainAid Go.Maps Go.ChangeMaps Go.MapKept Go.WideMaps
set_option linter.unusedVariables false
set_option linter.unusedSimpArgs false

set_option maxRecDepth 20000 in
set_option maxHeartbeats 32000000 in
theorem tail46 (X : Array Value) (h : Hd) (mx an ax cn cx : Int) (pm : Option Nat) (R : List (ByteArray × ByteArray)) (B : Nat) (w wc : World) (x16 : ByteArray) (u p g : Bool) (L : List (ByteArray × ByteArray)) (u18 u19 u20 u21 u22 u23 u24 u25 u26 u27 u28 u29 u30 u31 u32 u33 u34 u35 u36 u37 u38 u39 u40 u41 u42 u43 u44 u45 u46 u47 u48 u49 u50 u51 u52 u53 u54 u55 u56 u57 u58 u59 u60 u61 u62 u63 u64 u65 u66 u67 u68 u69 u70 u71 u72 u73 u74 u75 u76 u77 u78 u79 u80 u81 u82 u83 u84 u85 u86 u87 u88 u89 u90 u91 u92 u93 u94 u95 u96 u97 u98 u99 u100 u101 u102 u103 u104 u105 u106 u107 u108 u109 u110 u111 u112 u113 u114 u115 u116 u117 u118 u119 u120 u121 u122 u123 u124 u125 u126 u127 u128 u129 u130 u131 u132 u133 u134 u135 u136 u137 u138 u139 u140 u141 u142 u143 u144 u145 u146 u147 u148 u149 u150 u151 u152 u153 u154 u155 u156 u157 u158 u159 u160 u161 u162 u163 u164 u165 u166 u167 u168 u169 u170 u171 u172 u173 u174 u175 u176 u177 u178 u179 u180 u181 u182 u183 u184 u185 u186 u187 u188 u189 u190 u191 u192 u193 u194 u195 u196 u197 u198 u199 u200 u201 u202 u203 u204 u205 u206 u207 u208 u209 u210 u211 u212 u213 u214 u215 u216 u217 u218 u219 u220 u221 u222 u223 u224 u225 u226 u227 u228 u229 u230 u231 u232 u233 u234 u235 u236 u237 u238 u239 u240 u241 u242 u243 u244 u245 u246 u247 u248 u249 u250 u251 u252 u253 u254 u255 u256 u257 u258 u259 u260 u261 u262 u263 u264 u265 u266 u267 u268 u269 u270 u271 u272 u273 u274 u275 u276 u277 u278 u279 u280 u281 u282 u283 u284 u285 u286 u287 u288 u289 u290 u291 u292 : Value) (hB : w.heap.size = B) (hT : ¬ TyErr h) (hN : ¬ (hoB h.ty = false ∧ h.size < 0)) (hS : AF B (h.tcells mx an ax cn cx pm) pm R u p g L w wc) (hL : L.length ≤ 26 ∧ ∀ y ∈ L, FR h mx an ax cn cx R y) (hK : ∀ y, FE h mx an ax cn cx y → y.1.size ≤ 4000000000 ∧ y.2.size ≤ 4000000000) (hsz : ∀ x ∈ L, x.1.size ≤ 4000000000 ∧ x.2.size ≤ 4000000000) (hRs : ∀ x ∈ R, x.1.size ≤ 2147483647 ∧ x.2.size ≤ 2147483647) (hRl : R.length ≤ 2147483647) (hRn : ∀ q, pm = some q → R ≠ []) (hBK : BK B w) (hu : u = UF h mx an ax cn cx) (hp : p = PF h) (hg : g = GF h mx an ax cn cx) :
    (restAl 28).wp Tryz.prog (bodyPost Tryz.prog Tryz.f51 (AllP h mx an ax cn cx R w)) ⟨((.agg X :: .pointer (some ⟨B, 0, none⟩) :: .pointer (some ⟨B + 1, 0, none⟩) :: .pointer (some ⟨B + 2, 0, none⟩) :: .nilIface :: .pointer (some ⟨B + 4, 0, none⟩) :: .pointer (some ⟨B + 5, 0, none⟩) :: .pointer (some ⟨B + 6, 0, none⟩) :: .pointer (some ⟨B + 7, 0, none⟩) :: .func (.func 71) #[] #[.pointer (some ⟨B + 6, 0, none⟩), .pointer (some ⟨B + 1, 0, none⟩), .pointer (some ⟨B + 4, 0, none⟩), .pointer (some ⟨B + 5, 0, none⟩), .pointer (some ⟨B + 2, 0, none⟩), .pointer (some ⟨B, 0, none⟩)] :: .func (.func 76) #[] #[.pointer (some ⟨B + 6, 0, none⟩), .pointer (some ⟨B + 1, 0, none⟩), .pointer (some ⟨B + 4, 0, none⟩), .pointer (some ⟨B + 5, 0, none⟩), .pointer (some ⟨B + 2, 0, none⟩), .pointer (some ⟨B, 0, none⟩)] :: .func (.func 80) #[] #[.pointer (some ⟨B + 6, 0, none⟩), .pointer (some ⟨B + 1, 0, none⟩), .pointer (some ⟨B + 4, 0, none⟩), .pointer (some ⟨B + 7, 0, none⟩), .pointer (some ⟨B + 5, 0, none⟩), .pointer (some ⟨B + 2, 0, none⟩), .pointer (some ⟨B, 0, none⟩)] :: .pointer (some ⟨B + 8, 0, none⟩) :: .pointer (some ⟨B + 8, 0, none⟩) :: .pointer (some ⟨B + 8, 0, none⟩) :: .pointer (some ⟨B + 8, 0, none⟩) :: .string x16 :: .string ⟨#[]⟩ :: u18 :: u19 :: u20 :: u21 :: u22 :: u23 :: u24 :: u25 :: u26 :: u27 :: u28 :: u29 :: u30 :: u31 :: u32 :: u33 :: u34 :: u35 :: u36 :: u37 :: u38 :: u39 :: u40 :: u41 :: u42 :: u43 :: u44 :: u45 :: u46 :: u47 :: u48 :: u49 :: u50 :: u51 :: u52 :: u53 :: u54 :: u55 :: u56 :: u57 :: u58 :: u59 :: u60 :: u61 :: u62 :: u63 :: u64 :: u65 :: u66 :: u67 :: u68 :: u69 :: u70 :: u71 :: u72 :: u73 :: u74 :: u75 :: u76 :: u77 :: u78 :: u79 :: u80 :: u81 :: u82 :: u83 :: u84 :: u85 :: u86 :: u87 :: u88 :: u89 :: u90 :: u91 :: u92 :: u93 :: u94 :: u95 :: u96 :: u97 :: u98 :: u99 :: u100 :: u101 :: u102 :: u103 :: u104 :: u105 :: u106 :: u107 :: u108 :: u109 :: u110 :: u111 :: u112 :: u113 :: u114 :: u115 :: u116 :: u117 :: u118 :: u119 :: u120 :: u121 :: u122 :: u123 :: u124 :: u125 :: u126 :: u127 :: u128 :: u129 :: u130 :: u131 :: u132 :: u133 :: u134 :: u135 :: u136 :: u137 :: u138 :: u139 :: u140 :: u141 :: u142 :: u143 :: u144 :: u145 :: u146 :: u147 :: u148 :: u149 :: u150 :: u151 :: u152 :: u153 :: u154 :: u155 :: u156 :: u157 :: u158 :: u159 :: u160 :: u161 :: u162 :: u163 :: u164 :: u165 :: u166 :: u167 :: u168 :: u169 :: u170 :: u171 :: u172 :: u173 :: u174 :: u175 :: u176 :: u177 :: u178 :: u179 :: u180 :: u181 :: u182 :: u183 :: u184 :: u185 :: u186 :: u187 :: u188 :: u189 :: u190 :: u191 :: u192 :: u193 :: u194 :: u195 :: u196 :: u197 :: u198 :: u199 :: u200 :: u201 :: u202 :: u203 :: u204 :: u205 :: u206 :: u207 :: u208 :: u209 :: u210 :: u211 :: u212 :: u213 :: u214 :: u215 :: u216 :: u217 :: u218 :: u219 :: u220 :: u221 :: u222 :: u223 :: u224 :: u225 :: u226 :: u227 :: u228 :: u229 :: u230 :: u231 :: u232 :: u233 :: u234 :: u235 :: u236 :: u237 :: u238 :: u239 :: u240 :: u241 :: u242 :: u243 :: u244 :: u245 :: u246 :: u247 :: u248 :: u249 :: u250 :: u251 :: u252 :: u253 :: u254 :: u255 :: u256 :: u257 :: u258 :: u259 :: u260 :: u261 :: u262 :: u263 :: u264 :: u265 :: u266 :: u267 :: u268 :: u269 :: u270 :: u271 :: u272 :: u273 :: u274 :: u275 :: u276 :: u277 :: u278 :: u279 :: u280 :: u281 :: u282 :: u283 :: u284 :: u285 :: u286 :: u287 :: u288 :: u289 :: u290 :: u291 :: u292 :: []) : List Value).toArray, []⟩ wc := by
  conv in (restAl 28) => whnf
  have HS := Lib.hid hS
  have HBB := Lib.hid hB
  have d17 : wc.cell? ⟨B, 17, none⟩ = some (.map none) := hS.hd.cell 17
  have HALL := Lib.hid (And.intro hT (And.intro hN (And.intro hL (And.intro hK (And.intro hsz (And.intro hRs (And.intro hRl (And.intro hRn (And.intro hBK (And.intro hu (And.intro hp hg)))))))))))
  clear hS hB hT hN hL hK hsz hRs hRl hRn hBK hu hp hg
  go_upto_if 179 with (at_len; refine wpList_len_nil _ rfl _ 72 rfl 9 9 Tryz.underlying72 rfl ?_)
  rename_i kT hK
  go_cut [16] (fun a wx => a = .string x16 ∧ Hid (wc = wx))
  case first => as_aux_lemma =>
    rename_i jN kN gN1 gN2; repeat (rename_i hh; clear hh); try (rename_i kX1; have := kX1; clear this; repeat (rename_i hh; clear hh)); try (rename_i kX2; have := kX2; clear this; repeat (rename_i hh; clear hh)); try (rename_i kX3; have := kX3; clear this; repeat (rename_i hh; clear hh)); try (rename_i kX4; have := kX4; clear this; repeat (rename_i hh; clear hh)); try (rename_i kX5; have := kX5; clear this; repeat (rename_i hh; clear hh)); try (rename_i kX6; have := kX6; clear this; repeat (rename_i hh; clear hh))
    clear hK
    go_wp2_with fail
    go_meet
    case rel => exact ⟨rfl, Lib.hid rfl⟩
  case rest => as_aux_lemma =>
    obtain ⟨rfl, hw⟩ := hcut
    obtain rfl := hw.out
    obtain ⟨h1, h2, h3, h4, h5, h6, h7, h8, h9, h10, h11, h12⟩ := HALL.out
    exact hK _ _ (tail53 X h mx an ax cn cx pm R B w _ x16 u p g L _ _ _ _ _ _ _ _ _ _ _ _ _ _ _ _ _ _ _ _ _ _ _ _ _ _ _ _ _ _ _ _ _ _ _ _ _ _ _ _ _ _ _ _ _ _ _ _ _ _ _ _ _ _ _ _ _ _ _ _ _ _ _ _ _ _ _ _ _ _ _ _ _ _ _ _ _ _ _ _ _ _ _ _ _ _ _ _ _ _ _ _ _ _ _ _ _ _ _ _ _ _ _ _ _ _ _ _ _ _ _ _ _ _ _ _ _ _ _ _ _ _ _ _ _ _ _ _ _ _ _ _ _ _ _ _ _ _ _ _ _ _ _ _ _ _ _ _ _ _ _ _ _ _ _ _ _ _ _ _ _ _ _ _ _ _ _ _ _ _ _ _ _ _ _ _ _ _ _ _ _ _ _ _ _ _ _ _ _ _ _ _ _ _ _ _ _ _ _ _ _ _ _ _ _ _ _ _ _ _ _ _ _ _ _ _ _ _ _ _ _ _ _ _ _ _ _ _ _ _ _ _ _ _ _ _ _ _ _ _ _ _ _ _ _ _ _ _ _ _ _ _ _ _ _ _ _ _ _ _ _ _ _ _ _ _ _ _ _ _ _ _ _ _ _ HBB.out h1 h2 HS.out h3 h4 h5 h6 h7 h8 h9 h10 h11 h12)
end Go.Proofs.YtepeehjajhehfaaGreatDoor
namespace Go.Proofs.YtepeehjajhehfaaGreatDoor
open Go.RowKit Go.PlainAid Go.Maps Go.ChangeMaps Go.MapKept Go.WideMaps
set_option linter.unusedVariables false
set_option linter.unusedSimpArgs false

set_option maxRecDepth 20000 in
set_option maxHeartbeats 32000000 in
theorem tail44 (X : Array Value) (h : Hd) (mx an ax cn cx : Int) (pm : Option Nat) (R : List (ByteArray × ByteArray)) (B : Nat) (w wc : World) (x16 : ByteArray) (u p g : Bool) (L : List (ByteArray × ByteArray)) (u18 u19 u20 u21 u22 u23 u24 u25 u26 u27 u28 u29 u30 u31 u32 u33 u34 u35 u36 u37 u38 u39 u40 u41 u42 u43 u44 u45 u46 u47 u48 u49 u50 u51 u52 u53 u54 u55 u56 u57 u58 u59 u60 u61 u62 u63 u64 u65 u66 u67 u68 u69 u70 u71 u72 u73 u74 u75 u76 u77 u78 u79 u80 u81 u82 u83 u84 u85 u86 u87 u88 u89 u90 u91 u92 u93 u94 u95 u96 u97 u98 u99 u100 u101 u102 u103 u104 u105 u106 u107 u108 u109 u110 u111 u112 u113 u114 u115 u116 u117 u118 u119 u120 u121 u122 u123 u124 u125 u126 u127 u128 u129 u130 u131 u132 u133 u134 u135 u136 u137 u138 u139 u140 u141 u142 u143 u144 u145 u146 u147 u148 u149 u150 u151 u152 u153 u154 u155 u156 u157 u158 u159 u160 u161 u162 u163 u164 u165 u166 u167 u168 u169 u170 u171 u172 u173 u174 u175 u176 u177 u178 u179 u180 u181 u182 u183 u184 u185 u186 u187 u188 u189 u190 u191 u192 u193 u194 u195 u196 u197 u198 u199 u200 u201 u202 u203 u204 u205 u206 u207 u208 u209 u210 u211 u212 u213 u214 u215 u216 u217 u218 u219 u220 u221 u222 u223 u224 u225 u226 u227 u228 u229 u230 u231 u232 u233 u234 u235 u236 u237 u238 u239 u240 u241 u242 u243 u244 u245 u246 u247 u248 u249 u250 u251 u252 u253 u254 u255 u256 u257 u258 u259 u260 u261 u262 u263 u264 u265 u266 u267 u268 u269 u270 u271 u272 u273 u274 u275 u276 u277 u278 u279 u280 u281 u282 u283 u284 u285 u286 u287 u288 u289 u290 u291 u292 : Value) (hB : w.heap.size = B) (hT : ¬ TyErr h) (hS : AF B (h.tcells mx an ax cn cx pm) pm R u p g L w wc) (hL : L.length ≤ 26 ∧ ∀ y ∈ L, FR h mx an ax cn cx R y) (hK : ∀ y, FE h mx an ax cn cx y → y.1.size ≤ 4000000000 ∧ y.2.size ≤ 4000000000) (hsz : ∀ x ∈ L, x.1.size ≤ 4000000000 ∧ x.2.size ≤ 4000000000) (hRs : ∀ x ∈ R, x.1.size ≤ 2147483647 ∧ x.2.size ≤ 2147483647) (hRl : R.length ≤ 2147483647) (hRn : ∀ q, pm = some q → R ≠ []) (hBK : BK B w) (hu : u = UF h mx an ax cn cx) (hp : p = PF h) (hg : g = GF h mx an ax cn cx) :
    (restAl 27).wp Tryz.prog (bodyPost Tryz.prog Tryz.f51 (AllP h mx an ax cn cx R w)) ⟨((.agg X :: .pointer (some ⟨B, 0, none⟩) :: .pointer (some ⟨B + 1, 0, none⟩) :: .pointer (some ⟨B + 2, 0, none⟩) :: .nilIface :: .pointer (some ⟨B + 4, 0, none⟩) :: .pointer (some ⟨B + 5, 0, none⟩) :: .pointer (some ⟨B + 6, 0, none⟩) :: .pointer (some ⟨B + 7, 0, none⟩) :: .func (.func 71) #[] #[.pointer (some ⟨B + 6, 0, none⟩), .pointer (some ⟨B + 1, 0, none⟩), .pointer (some ⟨B + 4, 0, none⟩), .pointer (some ⟨B + 5, 0, none⟩), .pointer (some ⟨B + 2, 0, none⟩), .pointer (some ⟨B, 0, none⟩)] :: .func (.func 76) #[] #[.pointer (some ⟨B + 6, 0, none⟩), .pointer (some ⟨B + 1, 0, none⟩), .pointer (some ⟨B + 4, 0, none⟩), .pointer (some ⟨B + 5, 0, none⟩), .pointer (some ⟨B + 2, 0, none⟩), .pointer (some ⟨B, 0, none⟩)] :: .func (.func 80) #[] #[.pointer (some ⟨B + 6, 0, none⟩), .pointer (some ⟨B + 1, 0, none⟩), .pointer (some ⟨B + 4, 0, none⟩), .pointer (some ⟨B + 7, 0, none⟩), .pointer (some ⟨B + 5, 0, none⟩), .pointer (some ⟨B + 2, 0, none⟩), .pointer (some ⟨B, 0, none⟩)] :: .pointer (some ⟨B + 8, 0, none⟩) :: .pointer (some ⟨B + 8, 0, none⟩) :: .pointer (some ⟨B + 8, 0, none⟩) :: .pointer (some ⟨B + 8, 0, none⟩) :: .string x16 :: .string ⟨#[]⟩ :: u18 :: u19 :: u20 :: u21 :: u22 :: u23 :: u24 :: u25 :: u26 :: u27 :: u28 :: u29 :: u30 :: u31 :: u32 :: u33 :: u34 :: u35 :: u36 :: u37 :: u38 :: u39 :: u40 :: u41 :: u42 :: u43 :: u44 :: u45 :: u46 :: u47 :: u48 :: u49 :: u50 :: u51 :: u52 :: u53 :: u54 :: u55 :: u56 :: u57 :: u58 :: u59 :: u60 :: u61 :: u62 :: u63 :: u64 :: u65 :: u66 :: u67 :: u68 :: u69 :: u70 :: u71 :: u72 :: u73 :: u74 :: u75 :: u76 :: u77 :: u78 :: u79 :: u80 :: u81 :: u82 :: u83 :: u84 :: u85 :: u86 :: u87 :: u88 :: u89 :: u90 :: u91 :: u92 :: u93 :: u94 :: u95 :: u96 :: u97 :: u98 :: u99 :: u100 :: u101 :: u102 :: u103 :: u104 :: u105 :: u106 :: u107 :: u108 :: u109 :: u110 :: u111 :: u112 :: u113 :: u114 :: u115 :: u116 :: u117 :: u118 :: u119 :: u120 :: u121 :: u122 :: u123 :: u124 :: u125 :: u126 :: u127 :: u128 :: u129 :: u130 :: u131 :: u132 :: u133 :: u134 :: u135 :: u136 :: u137 :: u138 :: u139 :: u140 :: u141 :: u142 :: u143 :: u144 :: u145 :: u146 :: u147 :: u148 :: u149 :: u150 :: u151 :: u152 :: u153 :: u154 :: u155 :: u156 :: u157 :: u158 :: u159 :: u160 :: u161 :: u162 :: u163 :: u164 :: u165 :: u166 :: u167 :: u168 :: u169 :: u170 :: u171 :: u172 :: u173 :: u174 :: u175 :: u176 :: u177 :: u178 :: u179 :: u180 :: u181 :: u182 :: u183 :: u184 :: u185 :: u186 :: u187 :: u188 :: u189 :: u190 :: u191 :: u192 :: u193 :: u194 :: u195 :: u196 :: u197 :: u198 :: u199 :: u200 :: u201 :: u202 :: u203 :: u204 :: u205 :: u206 :: u207 :: u208 :: u209 :: u210 :: u211 :: u212 :: u213 :: u214 :: u215 :: u216 :: u217 :: u218 :: u219 :: u220 :: u221 :: u222 :: u223 :: u224 :: u225 :: u226 :: u227 :: u228 :: u229 :: u230 :: u231 :: u232 :: u233 :: u234 :: u235 :: u236 :: u237 :: u238 :: u239 :: u240 :: u241 :: u242 :: u243 :: u244 :: u245 :: u246 :: u247 :: u248 :: u249 :: u250 :: u251 :: u252 :: u253 :: u254 :: u255 :: u256 :: u257 :: u258 :: u259 :: u260 :: u261 :: u262 :: u263 :: u264 :: u265 :: u266 :: u267 :: u268 :: u269 :: u270 :: u271 :: u272 :: u273 :: u274 :: u275 :: u276 :: u277 :: u278 :: u279 :: u280 :: u281 :: u282 :: u283 :: u284 :: u285 :: u286 :: u287 :: u288 :: u289 :: u290 :: u291 :: u292 :: []) : List Value).toArray, []⟩ wc := by
  conv in (restAl 27) => whnf
  have HS := Lib.hid hS
  have HBB := Lib.hid hB
  have HTT := Lib.hid hT
  have HALL := Lib.hid (And.intro hL (And.intro hK (And.intro hsz (And.intro hRs (And.intro hRl (And.intro hRn (And.intro hBK (And.intro hu (And.intro hp hg)))))))))
  obtain ⟨t, ht⟩ : ∃ t, h.ty = t := ⟨_, rfl⟩
  have HTY := Lib.hid ht
  have c0 : wc.cell? ⟨B, 0, none⟩ = some (.int .u8 t) := by rw [← ht]; exact hS.hd.cell 0
  have c3 : wc.cell? ⟨B, 3, none⟩ = some (.int .i64 h.size) := hS.hd.cell 3
  obtain ⟨bo, hbo⟩ : ∃ b, hoB t = b := ⟨_, rfl⟩
  have HBO := Lib.hid hbo
  have HHO : ∀ w, Hid (Calls Tryz.prog 102 #[.int .u8 t] w fun e w' => e = .returned (.bool bo) ∧ w = w') := fun w => Lib.hid (by have h9 := headerOnly t w; rw [hbo] at h9; exact h9)
  obtain ⟨bz, hbz⟩ : ∃ b, decide (h.size < 0) = b := ⟨_, rfl⟩
  have HBZ := Lib.hid hbz
  clear hbo hS hB hT hL hK hsz hRs hRl hRn hBK hu hp hg ht
  go_upto_region 44 with fail
  rename_i kA hA kB hB
  go_cut [173] (fun v wx => v = .bool (!bo && bz) ∧ Hid (wc = wx))
  case first => as_aux_lemma =>
    rename_i jN kN gN1 gN2; repeat (rename_i hh; clear hh); try (rename_i kX1; have := kX1; clear this; repeat (rename_i hh; clear hh)); try (rename_i kX2; have := kX2; clear this; repeat (rename_i hh; clear hh)); try (rename_i kX3; have := kX3; clear this; repeat (rename_i hh; clear hh)); try (rename_i kX4; have := kX4; clear this; repeat (rename_i hh; clear hh)); try (rename_i kX5; have := kX5; clear this; repeat (rename_i hh; clear hh)); try (rename_i kX6; have := kX6; clear this; repeat (rename_i hh; clear hh))
    clear hB hA
    cases bo
    · go_wp2_with (go_at_call 102; refine (HHO _).out.mono ?_; rintro e w' ⟨rfl, rfl⟩)
      go_meet
      case rel => exact ⟨rfl, Lib.hid rfl⟩
    · go_wp2_with (go_at_call 102; refine (HHO _).out.mono ?_; rintro e w' ⟨rfl, rfl⟩)
      go_meet
      case rel => exact ⟨rfl, Lib.hid rfl⟩
  case rest => as_aux_lemma =>
    obtain ⟨rfl, hw⟩ := hcut
    obtain rfl := hw.out
    clear hw hbz HHO c0 c3
    repeat (rename_i hh; clear hh); try (rename_i kX1; have := kX1; clear this; repeat (rename_i hh; clear hh)); try (rename_i kX2; have := kX2; clear this; repeat (rename_i hh; clear hh)); try (rename_i kX3; have := kX3; clear this; repeat (rename_i hh; clear hh)); try (rename_i kX4; have := kX4; clear this; repeat (rename_i hh; clear hh)); try (rename_i kX5; have := kX5; clear this; repeat (rename_i hh; clear hh)); try (rename_i kX6; have := kX6; clear this; repeat (rename_i hh; clear hh))
    obtain ⟨b, hb⟩ : ∃ b, (!bo && bz) = b := ⟨_, rfl⟩
    have HBB3 := Lib.hid hb
    rw [hb]
    clear hb
    go_upto_if 173 with fail
    go_cut [4] (fun e wx => e = .nilIface ∧ b = false ∧ Hid (wc = wx))
    case first => as_aux_lemma =>
      rename_i jN kN gN1 gN2; repeat (rename_i hh; clear hh); try (rename_i kX1; have := kX1; clear this; repeat (rename_i hh; clear hh)); try (rename_i kX2; have := kX2; clear this; repeat (rename_i hh; clear hh)); try (rename_i kX3; have := kX3; clear this; repeat (rename_i hh; clear hh)); try (rename_i kX4; have := kX4; clear this; repeat (rename_i hh; clear hh)); try (rename_i kX5; have := kX5; clear this; repeat (rename_i hh; clear hh)); try (rename_i kX6; have := kX6; clear this; repeat (rename_i hh; clear hh))
      clear hA
      cases b
      · go_wp2_with fail
        go_meet
        case rel => exact ⟨rfl, rfl, Lib.hid rfl⟩
      · have HERR : Hid (AllNo h mx an ax cn cx R) := Lib.hid (.inr (.inl (by have h9 := HBB3.out; rw [Bool.and_eq_true, Bool.not_eq_true'] at h9; rw [HTY.out, HBO.out]; exact ⟨h9.1, by have h8 := HBZ.out; rw [h9.2] at h8; exact of_decide_eq_true h8⟩)))
        obtain ⟨k1, f1⟩ := HS.out.c1
        obtain ⟨k2, f2⟩ := HS.out.c2
        go_upto_region 45 with fail
        rename_i kE hE
        go_cut [4] (fun v wx => (∃ x, v = .iface 144 x) ∧ wx.cell? ⟨B + 1, 0, none⟩ = some (.int .i64 0) ∧ wx.cell? ⟨B + 2, 0, none⟩ = some (.map none) ∧ Hid (Below B w wx))
        case first =>
          rename_i jN kN gN1 gN2; repeat (rename_i hh; clear hh); try (rename_i kX1; have := kX1; clear this; repeat (rename_i hh; clear hh)); try (rename_i kX2; have := kX2; clear this; repeat (rename_i hh; clear hh)); try (rename_i kX3; have := kX3; clear this; repeat (rename_i hh; clear hh)); try (rename_i kX4; have := kX4; clear this; repeat (rename_i hh; clear hh)); try (rename_i kX5; have := kX5; clear this; repeat (rename_i hh; clear hh)); try (rename_i kX6; have := kX6; clear this; repeat (rename_i hh; clear hh))
          clear hE
          go_wp2_with (refine wpList_bs1s (o := ⟨some 174, _, _, _, _, _⟩) _ rfl (.const _) rfl _ rfl ?_; intro w8 vE hg8 hvE; have HS8 := Lib.hid (HS.out.grown hg8 (fun k hk => by cases hk)); obtain ⟨j1, l1⟩ := HS8.out.c1; obtain ⟨j2, l2⟩ := HS8.out.c2; clear hg8 hvE)
          go_meet
          case rel => exact ⟨⟨_, rfl⟩, (HS8.out.errEnd 0 none).1, (HS8.out.errEnd 0 none).2.1, Lib.hid (HS8.out.errEnd 0 none).2.2⟩
        case rest => as_aux_lemma =>
          obtain ⟨⟨x9, rfl⟩, e1, e2, e3⟩ := hcut
          refine hE _ _ ?_
          clear hE
          refine wp_ret ?_
          try simp only [Exit.inBlock, Exit.then]
          refine bodyPost_ret (results_cct rfl _ _ rfl rfl (run_loadVar_c _ _ _ Tryz.underlying73 rfl _ _ e1) (run_loadVar_c _ _ _ Tryz.underlying72 rfl _ _ e2)) rfl ?_
          exact .inl ⟨⟨0, none, _, rfl⟩, HERR.out, by rw [HBB.out]; exact e3.out⟩
    case rest => as_aux_lemma =>
      obtain ⟨rfl, hb2, hw⟩ := hcut
      subst hb2
      obtain rfl := hw.out
      have HNS : ¬ (hoB h.ty = false ∧ h.size < 0) := by rw [HTY.out, HBO.out]; rintro ⟨q1, q2⟩; have h9 := HBB3.out; have h8 := HBZ.out; rw [decide_eq_true q2] at h8; rw [q1, ← h8] at h9; cases h9
      obtain ⟨h3, h4, h5, h6, h7, h8, h9, h10, h11, h12⟩ := HALL.out
      exact hA _ _ (tail46 X h mx an ax cn cx pm R B w _ x16 u p g L _ _ _ _ _ _ _ _ _ _ _ _ _ _ _ _ _ _ _ _ _ _ _ _ _ _ _ _ _ _ _ _ _ _ _ _ _ _ _ _ _ _ _ _ _ _ _ _ _ _ _ _ _ _ _ _ _ _ _ _ _ _ _ _ _ _ _ _ _ _ _ _ _ _ _ _ _ _ _ _ _ _ _ _ _ _ _ _ _ _ _ _ _ _ _ _ _ _ _ _ _ _ _ _ _ _ _ _ _ _ _ _ _ _ _ _ _ _ _ _ _ _ _ _ _ _ _ _ _ _ _ _ _ _ _ _ _ _ _ _ _ _ _ _ _ _ _ _ _ _ _ _ _ _ _ _ _ _ _ _ _ _ _ _ _ _ _ _ _ _ _ _ _ _ _ _ _ _ _ _ _ _ _ _ _ _ _ _ _ _ _ _ _ _ _ _ _ _ _ _ _ _ _ _ _ _ _ _ _ _ _ _ _ _ _ _ _ _ _ _ _ _ _ _ _ _ _ _ _ _ _ _ _ _ _ _ _ _ _ _ _ _ _ _ _ _ _ _ _ _ _ _ _ _ _ _ _ _ _ _ _ _ _ _ _ _ _ _ _ _ _ _ _ _ _ HBB.out HTT.out HNS HS.out h3 h4 h5 h6 h7 h8 h9 h10 h11 h12)
end Go.Proofs.YtepeehjajhehfaaGreatDoor
