/- allowedFormats: its last region. allowedFormats: what comes of no format. allowedFormats: the format that is asked for: none. allowedFormats: are the records that would be written valid? -/
import Derived.Test.YtepeehjajhehfaaGreatDoorMA8
import Derived.Deep.CutBlock
import Derived.Deep.DeepCutAuto
import Derived.Deep.RegionHeld3
import Derived.RegionTactic
namespace Go.Proofs.YtepeehjajhehfaaGreatDoor
open Go.RowKit Go.PlainAid Go.Maps Go.ChangeMaps Go.MapKept Go.WideMaps
set_option linter.unusedVariables false
set_option linter.unusedSimpArgs false

/-- What follows the first k statements. -/
def codeDrop : Nat → Code → Code
  | 0, c => c
  | n + 1, .seq _ b => codeDrop n b
  | _, c => c
noncomputable def restAl (k : Nat) : Code := codeDrop k (Tryz.f51.body.getD .skip)
theorem AF.mset {B : Nat} {hx : List Value} {pm : Option Nat} {R L : List (ByteArray × ByteArray)} {u p g : Bool} {w w' : World} (s : AF B hx pm R u p g L w w') : AF B hx pm R u p g L w (w'.setCell ⟨B + 2, 0, none⟩ (.map (some (B + 3)))) := by
  have hf := far_set w' (B + 2) (.map (some (B + 3)))
  obtain ⟨_, y4⟩ := s.y4
  obtain ⟨_, y5⟩ := s.y5
  obtain ⟨_, y6⟩ := s.y6
  obtain ⟨_, y7⟩ := s.pf
  exact ⟨s.bel' hf (by simp), s.hd.of_far hf (by simp), s.hp, s.hr.far hf (by simp), s.fm.of_far hf (by simp), s.mc.set_ 0 _, ownsMap_of_far s.ow hf (by simp), ⟨_, y4.of_far hf (by simp)⟩, ⟨_, y5.of_far hf (by simp)⟩, ⟨_, y6.of_far hf (by simp)⟩, ⟨_, y7.of_far hf (by simp)⟩⟩
set_option maxRecDepth 20000 in
set_option maxHeartbeats 32000000 in
theorem tail84 (X : Array Value) (h : Hd) (mx an ax cn cx : Int) (pm : Option Nat) (R : List (ByteArray × ByteArray)) (B : Nat) (w wc : World) (e4 s16 s17 : Value) (u p g : Bool) (L : List (ByteArray × ByteArray)) (u18 u19 u20 u21 u22 u23 u24 u25 u26 u27 u28 u29 u30 u31 u32 u33 u34 u35 u36 u37 u38 u39 u40 u41 u42 u43 u44 u45 u46 u47 u48 u49 u50 u51 u52 u53 u54 u55 u56 u57 u58 u59 u60 u61 u62 u63 u64 u65 u66 u67 u68 u69 u70 u71 u72 u73 u74 u75 u76 u77 u78 u79 u80 u81 u82 u83 u84 u85 u86 u87 u88 u89 u90 u91 u92 u93 u94 u95 u96 u97 u98 u99 u100 u101 u102 u103 u104 u105 u106 u107 u108 u109 u110 u111 u112 u113 u114 u115 u116 u117 u118 u119 u120 u121 u122 u123 u124 u125 u126 u127 u128 u129 u130 u131 u132 u133 u134 u135 u136 u137 u138 u139 u140 u141 u142 u143 u144 u145 u146 u147 u148 u149 u150 u151 u152 u153 u154 u155 u156 u157 u158 u159 u160 u161 u162 u163 u164 u165 u166 u167 u168 u169 u170 u171 u172 u173 u174 u175 u176 u177 u178 u179 u180 u181 u182 u183 u184 u185 u186 u187 u188 u189 u190 u191 u192 u193 u194 u195 u196 u197 u198 u199 u200 u201 u202 u203 u204 u205 u206 u207 u208 u209 u210 u211 u212 u213 u214 u215 u216 u217 u218 u219 u220 u221 u222 u223 u224 u225 u226 u227 u228 u229 u230 u231 u232 u233 u234 u235 u236 u237 u238 u239 u240 u241 u242 u243 u244 u245 u246 u247 u248 u249 u250 u251 u252 u253 u254 u255 u256 u257 u258 u259 u260 u261 u262 u263 u264 u265 u266 u267 u268 u269 u270 u271 u272 u273 u274 u275 u276 u277 u278 u279 u280 u281 u282 u283 u284 u285 u286 u287 u288 u289 u290 u291 u292 : Value) (hB : w.heap.size = B) (hS : AF B (h.tcells mx an ax cn cx pm) pm R u p g L w wc) (hE : (e4 = .nilIface ∧ AllYes h mx an ax cn cx R u p g L) ∨ (∃ x, e4 = .iface 144 x ∧ AllNo h mx an ax cn cx R)) :
    (restAl 33).wp Tryz.prog (bodyPost Tryz.prog Tryz.f51 (AllP h mx an ax cn cx R w)) ⟨((.agg X :: .pointer (some ⟨B, 0, none⟩) :: .pointer (some ⟨B + 1, 0, none⟩) :: .pointer (some ⟨B + 2, 0, none⟩) :: e4 :: .pointer (some ⟨B + 4, 0, none⟩) :: .pointer (some ⟨B + 5, 0, none⟩) :: .pointer (some ⟨B + 6, 0, none⟩) :: .pointer (some ⟨B + 7, 0, none⟩) :: .func (.func 71) #[] #[.pointer (some ⟨B + 6, 0, none⟩), .pointer (some ⟨B + 1, 0, none⟩), .pointer (some ⟨B + 4, 0, none⟩), .pointer (some ⟨B + 5, 0, none⟩), .pointer (some ⟨B + 2, 0, none⟩), .pointer (some ⟨B, 0, none⟩)] :: .func (.func 76) #[] #[.pointer (some ⟨B + 6, 0, none⟩), .pointer (some ⟨B + 1, 0, none⟩), .pointer (some ⟨B + 4, 0, none⟩), .pointer (some ⟨B + 5, 0, none⟩), .pointer (some ⟨B + 2, 0, none⟩), .pointer (some ⟨B, 0, none⟩)] :: .func (.func 80) #[] #[.pointer (some ⟨B + 6, 0, none⟩), .pointer (some ⟨B + 1, 0, none⟩), .pointer (some ⟨B + 4, 0, none⟩), .pointer (some ⟨B + 7, 0, none⟩), .pointer (some ⟨B + 5, 0, none⟩), .pointer (some ⟨B + 2, 0, none⟩), .pointer (some ⟨B, 0, none⟩)] :: .pointer (some ⟨B + 8, 0, none⟩) :: .pointer (some ⟨B + 8, 0, none⟩) :: .pointer (some ⟨B + 8, 0, none⟩) :: .pointer (some ⟨B + 8, 0, none⟩) :: s16 :: s17 :: u18 :: u19 :: u20 :: u21 :: u22 :: u23 :: u24 :: u25 :: u26 :: u27 :: u28 :: u29 :: u30 :: u31 :: u32 :: u33 :: u34 :: u35 :: u36 :: u37 :: u38 :: u39 :: u40 :: u41 :: u42 :: u43 :: u44 :: u45 :: u46 :: u47 :: u48 :: u49 :: u50 :: u51 :: u52 :: u53 :: u54 :: u55 :: u56 :: u57 :: u58 :: u59 :: u60 :: u61 :: u62 :: u63 :: u64 :: u65 :: u66 :: u67 :: u68 :: u69 :: u70 :: u71 :: u72 :: u73 :: u74 :: u75 :: u76 :: u77 :: u78 :: u79 :: u80 :: u81 :: u82 :: u83 :: u84 :: u85 :: u86 :: u87 :: u88 :: u89 :: u90 :: u91 :: u92 :: u93 :: u94 :: u95 :: u96 :: u97 :: u98 :: u99 :: u100 :: u101 :: u102 :: u103 :: u104 :: u105 :: u106 :: u107 :: u108 :: u109 :: u110 :: u111 :: u112 :: u113 :: u114 :: u115 :: u116 :: u117 :: u118 :: u119 :: u120 :: u121 :: u122 :: u123 :: u124 :: u125 :: u126 :: u127 :: u128 :: u129 :: u130 :: u131 :: u132 :: u133 :: u134 :: u135 :: u136 :: u137 :: u138 :: u139 :: u140 :: u141 :: u142 :: u143 :: u144 :: u145 :: u146 :: u147 :: u148 :: u149 :: u150 :: u151 :: u152 :: u153 :: u154 :: u155 :: u156 :: u157 :: u158 :: u159 :: u160 :: u161 :: u162 :: u163 :: u164 :: u165 :: u166 :: u167 :: u168 :: u169 :: u170 :: u171 :: u172 :: u173 :: u174 :: u175 :: u176 :: u177 :: u178 :: u179 :: u180 :: u181 :: u182 :: u183 :: u184 :: u185 :: u186 :: u187 :: u188 :: u189 :: u190 :: u191 :: u192 :: u193 :: u194 :: u195 :: u196 :: u197 :: u198 :: u199 :: u200 :: u201 :: u202 :: u203 :: u204 :: u205 :: u206 :: u207 :: u208 :: u209 :: u210 :: u211 :: u212 :: u213 :: u214 :: u215 :: u216 :: u217 :: u218 :: u219 :: u220 :: u221 :: u222 :: u223 :: u224 :: u225 :: u226 :: u227 :: u228 :: u229 :: u230 :: u231 :: u232 :: u233 :: u234 :: u235 :: u236 :: u237 :: u238 :: u239 :: u240 :: u241 :: u242 :: u243 :: u244 :: u245 :: u246 :: u247 :: u248 :: u249 :: u250 :: u251 :: u252 :: u253 :: u254 :: u255 :: u256 :: u257 :: u258 :: u259 :: u260 :: u261 :: u262 :: u263 :: u264 :: u265 :: u266 :: u267 :: u268 :: u269 :: u270 :: u271 :: u272 :: u273 :: u274 :: u275 :: u276 :: u277 :: u278 :: u279 :: u280 :: u281 :: u282 :: u283 :: u284 :: u285 :: u286 :: u287 :: u288 :: u289 :: u290 :: u291 :: u292 :: []) : List Value).toArray, []⟩ wc := by
  conv in (restAl 33) => whnf
  have HS := Lib.hid hS
  have HBB := Lib.hid hB
  have HE := Lib.hid hE
  obtain ⟨k1, f1⟩ := hS.c1
  obtain ⟨k2, f2⟩ := hS.c2
  clear hS hB hE
  go_upto_region 84 with fail
  rename_i kE hE
  go_region
  simp only [Exit.then]
  have HS2 := Lib.hid (((HS.out.fset u p g).mset).drew)
  have e1 := HS2.out.c1.1
  have e2 := HS2.out.c2.1
  refine hE _ _ ?_
  clear hE
  refine wp_ret ?_
  try simp only [Exit.inBlock, Exit.then]
  refine bodyPost_ret (results_cct rfl _ _ rfl rfl (run_loadVar_c _ _ _ Tryz.underlying73 rfl _ _ e1) (run_loadVar_c _ _ _ Tryz.underlying72 rfl _ _ e2)) rfl ?_
  have hb9 := HS2.out.bel
  rcases HE.out with ⟨he, hY⟩ | ⟨x9, he, hN⟩
  · subst he
    exact .inr ⟨u, p, g, B + 3, L, rfl, HS2.out.ow, hY, by rw [HBB.out]; exact hb9⟩
  · subst he
    exact .inl ⟨⟨_, _, x9, rfl⟩, hN, by rw [HBB.out]; exact hb9⟩
end Go.Proofs.YtepeehjajhehfaaGreatDoor
namespace Go.Proofs.YtepeehjajhehfaaGreatDoor
open Go.RowKit Go.PlainAid Go.Maps Go.ChangeMaps Go.MapKept Go.WideMaps
set_option linter.unusedVariables false
set_option linter.unusedSimpArgs false

set_option maxRecDepth 20000 in
set_option maxHeartbeats 32000000 in
theorem tail75 (X : Array Value) (h : Hd) (mx an ax cn cx : Int) (pm : Option Nat) (R : List (ByteArray × ByteArray)) (B : Nat) (w wc : World) (x16 : ByteArray) (u p g : Bool) (L : List (ByteArray × ByteArray)) (u18 u19 u20 u21 u22 u23 u24 u25 u26 u27 u28 u29 u30 u31 u32 u33 u34 u35 u36 u37 u38 u39 u40 u41 u42 u43 u44 u45 u46 u47 u48 u49 u50 u51 u52 u53 u54 u55 u56 u57 u58 u59 u60 u61 u62 u63 u64 u65 u66 u67 u68 u69 u70 u71 u72 u73 u74 u75 u76 u77 u78 u79 u80 u81 u82 u83 u84 u85 u86 u87 u88 u89 u90 u91 u92 u93 u94 u95 u96 u97 u98 u99 u100 u101 u102 u103 u104 u105 u106 u107 u108 u109 u110 u111 u112 u113 u114 u115 u116 u117 u118 u119 u120 u121 u122 u123 u124 u125 u126 u127 u128 u129 u130 u131 u132 u133 u134 u135 u136 u137 u138 u139 u140 u141 u142 u143 u144 u145 u146 u147 u148 u149 u150 u151 u152 u153 u154 u155 u156 u157 u158 u159 u160 u161 u162 u163 u164 u165 u166 u167 u168 u169 u170 u171 u172 u173 u174 u175 u176 u177 u178 u179 u180 u181 u182 u183 u184 u185 u186 u187 u188 u189 u190 u191 u192 u193 u194 u195 u196 u197 u198 u199 u200 u201 u202 u203 u204 u205 u206 u207 u208 u209 u210 u211 u212 u213 u214 u215 u216 u217 u218 u219 u220 u221 u222 u223 u224 u225 u226 u227 u228 u229 u230 u231 u232 u233 u234 u235 u236 u237 u238 u239 u240 u241 u242 u243 u244 u245 u246 u247 u248 u249 u250 u251 u252 u253 u254 u255 u256 u257 u258 u259 u260 u261 u262 u263 u264 u265 u266 u267 u268 u269 u270 u271 u272 u273 u274 u275 u276 u277 u278 u279 u280 u281 u282 u283 u284 u285 u286 u287 u288 u289 u290 u291 u292 : Value) (hB : w.heap.size = B) (hS : AF B (h.tcells mx an ax cn cx pm) pm R u p g L w wc) (hY : (u || p || g) = true → AllYes h mx an ax cn cx R u p g L) (hN : (u || p || g) = false → AllNo h mx an ax cn cx R) :
    (restAl 32).wp Tryz.prog (bodyPost Tryz.prog Tryz.f51 (AllP h mx an ax cn cx R w)) ⟨((.agg X :: .pointer (some ⟨B, 0, none⟩) :: .pointer (some ⟨B + 1, 0, none⟩) :: .pointer (some ⟨B + 2, 0, none⟩) :: .nilIface :: .pointer (some ⟨B + 4, 0, none⟩) :: .pointer (some ⟨B + 5, 0, none⟩) :: .pointer (some ⟨B + 6, 0, none⟩) :: .pointer (some ⟨B + 7, 0, none⟩) :: .func (.func 71) #[] #[.pointer (some ⟨B + 6, 0, none⟩), .pointer (some ⟨B + 1, 0, none⟩), .pointer (some ⟨B + 4, 0, none⟩), .pointer (some ⟨B + 5, 0, none⟩), .pointer (some ⟨B + 2, 0, none⟩), .pointer (some ⟨B, 0, none⟩)] :: .func (.func 76) #[] #[.pointer (some ⟨B + 6, 0, none⟩), .pointer (some ⟨B + 1, 0, none⟩), .pointer (some ⟨B + 4, 0, none⟩), .pointer (some ⟨B + 5, 0, none⟩), .pointer (some ⟨B + 2, 0, none⟩), .pointer (some ⟨B, 0, none⟩)] :: .func (.func 80) #[] #[.pointer (some ⟨B + 6, 0, none⟩), .pointer (some ⟨B + 1, 0, none⟩), .pointer (some ⟨B + 4, 0, none⟩), .pointer (some ⟨B + 7, 0, none⟩), .pointer (some ⟨B + 5, 0, none⟩), .pointer (some ⟨B + 2, 0, none⟩), .pointer (some ⟨B, 0, none⟩)] :: .pointer (some ⟨B + 8, 0, none⟩) :: .pointer (some ⟨B + 8, 0, none⟩) :: .pointer (some ⟨B + 8, 0, none⟩) :: .pointer (some ⟨B + 8, 0, none⟩) :: .string x16 :: .string ⟨#[]⟩ :: u18 :: u19 :: u20 :: u21 :: u22 :: u23 :: u24 :: u25 :: u26 :: u27 :: u28 :: u29 :: u30 :: u31 :: u32 :: u33 :: u34 :: u35 :: u36 :: u37 :: u38 :: u39 :: u40 :: u41 :: u42 :: u43 :: u44 :: u45 :: u46 :: u47 :: u48 :: u49 :: u50 :: u51 :: u52 :: u53 :: u54 :: u55 :: u56 :: u57 :: u58 :: u59 :: u60 :: u61 :: u62 :: u63 :: u64 :: u65 :: u66 :: u67 :: u68 :: u69 :: u70 :: u71 :: u72 :: u73 :: u74 :: u75 :: u76 :: u77 :: u78 :: u79 :: u80 :: u81 :: u82 :: u83 :: u84 :: u85 :: u86 :: u87 :: u88 :: u89 :: u90 :: u91 :: u92 :: u93 :: u94 :: u95 :: u96 :: u97 :: u98 :: u99 :: u100 :: u101 :: u102 :: u103 :: u104 :: u105 :: u106 :: u107 :: u108 :: u109 :: u110 :: u111 :: u112 :: u113 :: u114 :: u115 :: u116 :: u117 :: u118 :: u119 :: u120 :: u121 :: u122 :: u123 :: u124 :: u125 :: u126 :: u127 :: u128 :: u129 :: u130 :: u131 :: u132 :: u133 :: u134 :: u135 :: u136 :: u137 :: u138 :: u139 :: u140 :: u141 :: u142 :: u143 :: u144 :: u145 :: u146 :: u147 :: u148 :: u149 :: u150 :: u151 :: u152 :: u153 :: u154 :: u155 :: u156 :: u157 :: u158 :: u159 :: u160 :: u161 :: u162 :: u163 :: u164 :: u165 :: u166 :: u167 :: u168 :: u169 :: u170 :: u171 :: u172 :: u173 :: u174 :: u175 :: u176 :: u177 :: u178 :: u179 :: u180 :: u181 :: u182 :: u183 :: u184 :: u185 :: u186 :: u187 :: u188 :: u189 :: u190 :: u191 :: u192 :: u193 :: u194 :: u195 :: u196 :: u197 :: u198 :: u199 :: u200 :: u201 :: u202 :: u203 :: u204 :: u205 :: u206 :: u207 :: u208 :: u209 :: u210 :: u211 :: u212 :: u213 :: u214 :: u215 :: u216 :: u217 :: u218 :: u219 :: u220 :: u221 :: u222 :: u223 :: u224 :: u225 :: u226 :: u227 :: u228 :: u229 :: u230 :: u231 :: u232 :: u233 :: u234 :: u235 :: u236 :: u237 :: u238 :: u239 :: u240 :: u241 :: u242 :: u243 :: u244 :: u245 :: u246 :: u247 :: u248 :: u249 :: u250 :: u251 :: u252 :: u253 :: u254 :: u255 :: u256 :: u257 :: u258 :: u259 :: u260 :: u261 :: u262 :: u263 :: u264 :: u265 :: u266 :: u267 :: u268 :: u269 :: u270 :: u271 :: u272 :: u273 :: u274 :: u275 :: u276 :: u277 :: u278 :: u279 :: u280 :: u281 :: u282 :: u283 :: u284 :: u285 :: u286 :: u287 :: u288 :: u289 :: u290 :: u291 :: u292 :: []) : List Value).toArray, []⟩ wc := by
  conv in (restAl 32) => whnf
  have HS := Lib.hid hS
  have HBB := Lib.hid hB
  have HYS := Lib.hid hY
  have HNO := Lib.hid hN
  obtain ⟨k1, f1⟩ := hS.c1
  obtain ⟨y4, k4, f4⟩ := hS.c4
  obtain ⟨y5, k5, f5⟩ := hS.c5
  obtain ⟨y6, k6, f6⟩ := hS.c6
  have d19 : wc.cell? ⟨B, 19, none⟩ = some (.int .i64 0) := hS.hd.cell 19
  obtain ⟨bz, hbz⟩ : ∃ b, (fmtV u p g == 0) = b := ⟨_, rfl⟩
  have HBZ : Hid (bz = !(u || p || g)) := Lib.hid (by rw [← hbz]; cases u <;> cases p <;> cases g <;> rfl)
  clear hS hB hY hN
  go_upto_if 261 with fail
  rename_i kT hT
  go_cut [4] (fun e wx => ((bz = false ∧ e = .nilIface) ∨ (bz = true ∧ ∃ x, e = .iface 144 x)) ∧ Hid (AF B (h.tcells mx an ax cn cx pm) pm R u p g L w wx))
  case first => as_aux_lemma =>
    rename_i jN kN gN1 gN2; repeat (rename_i hh; clear hh); try (rename_i kX1; have := kX1; clear this; repeat (rename_i hh; clear hh)); try (rename_i kX2; have := kX2; clear this; repeat (rename_i hh; clear hh)); try (rename_i kX3; have := kX3; clear this; repeat (rename_i hh; clear hh)); try (rename_i kX4; have := kX4; clear this; repeat (rename_i hh; clear hh)); try (rename_i kX5; have := kX5; clear this; repeat (rename_i hh; clear hh)); try (rename_i kX6; have := kX6; clear this; repeat (rename_i hh; clear hh))
    clear hT
    cases bz
    · go_wp2_with fail
      go_meet
      case rel => exact ⟨.inl ⟨rfl, rfl⟩, HS⟩
    · go_wp2_with (refine wpList_bs5s (o := ⟨some 269, _, _, _, _, _⟩) _ rfl (.tmp 264) (.tmp 265) (.tmp 266) (.tmp 267) (.tmp 268) rfl _ _ _ _ _ rfl rfl rfl rfl rfl ?_; intro w8 vE hg8 hvE; have HS8 := Lib.hid (HS.out.grown hg8 (fun k hk => by cases hk)); clear hg8 hvE)
      go_meet
      case rel => exact ⟨.inr ⟨rfl, _, rfl⟩, HS8⟩
  case rest => as_aux_lemma =>
    obtain ⟨he, HS2⟩ := hcut
    rcases he with ⟨hz, rfl⟩ | ⟨hz, x9, rfl⟩
    · exact hT _ _ (tail84 X h mx an ax cn cx pm R B w _ .nilIface _ _ u p g L _ _ _ _ _ _ _ _ _ _ _ _ _ _ _ _ _ _ _ _ _ _ _ _ _ _ _ _ _ _ _ _ _ _ _ _ _ _ _ _ _ _ _ _ _ _ _ _ _ _ _ _ _ _ _ _ _ _ _ _ _ _ _ _ _ _ _ _ _ _ _ _ _ _ _ _ _ _ _ _ _ _ _ _ _ _ _ _ _ _ _ _ _ _ _ _ _ _ _ _ _ _ _ _ _ _ _ _ _ _ _ _ _ _ _ _ _ _ _ _ _ _ _ _ _ _ _ _ _ _ _ _ _ _ _ _ _ _ _ _ _ _ _ _ _ _ _ _ _ _ _ _ _ _ _ _ _ _ _ _ _ _ _ _ _ _ _ _ _ _ _ _ _ _ _ _ _ _ _ _ _ _ _ _ _ _ _ _ _ _ _ _ _ _ _ _ _ _ _ _ _ _ _ _ _ _ _ _ _ _ _ _ _ _ _ _ _ _ _ _ _ _ _ _ _ _ _ _ _ _ _ _ _ _ _ _ _ _ _ _ _ _ _ _ _ _ _ _ _ _ _ _ _ _ _ _ _ _ _ _ _ _ _ _ _ _ _ _ _ _ _ _ _ _ _ HBB.out HS2.out (.inl ⟨rfl, HYS.out (by have h9 := HBZ.out; rw [hz] at h9; revert h9; generalize (u || p || g) = q; cases q <;> intro h9 <;> first | rfl | cases h9)⟩))
    · exact hT _ _ (tail84 X h mx an ax cn cx pm R B w _ _ _ _ u p g L _ _ _ _ _ _ _ _ _ _ _ _ _ _ _ _ _ _ _ _ _ _ _ _ _ _ _ _ _ _ _ _ _ _ _ _ _ _ _ _ _ _ _ _ _ _ _ _ _ _ _ _ _ _ _ _ _ _ _ _ _ _ _ _ _ _ _ _ _ _ _ _ _ _ _ _ _ _ _ _ _ _ _ _ _ _ _ _ _ _ _ _ _ _ _ _ _ _ _ _ _ _ _ _ _ _ _ _ _ _ _ _ _ _ _ _ _ _ _ _ _ _ _ _ _ _ _ _ _ _ _ _ _ _ _ _ _ _ _ _ _ _ _ _ _ _ _ _ _ _ _ _ _ _ _ _ _ _ _ _ _ _ _ _ _ _ _ _ _ _ _ _ _ _ _ _ _ _ _ _ _ _ _ _ _ _ _ _ _ _ _ _ _ _ _ _ _ _ _ _ _ _ _ _ _ _ _ _ _ _ _ _ _ _ _ _ _ _ _ _ _ _ _ _ _ _ _ _ _ _ _ _ _ _ _ _ _ _ _ _ _ _ _ _ _ _ _ _ _ _ _ _ _ _ _ _ _ _ _ _ _ _ _ _ _ _ _ _ _ _ _ _ _ _ _ HBB.out HS2.out (.inr ⟨x9, rfl, HNO.out (by have h9 := HBZ.out; rw [hz] at h9; revert h9; generalize (u || p || g) = q; cases q <;> intro h9 <;> first | rfl | cases h9)⟩))
end Go.Proofs.YtepeehjajhehfaaGreatDoor
namespace Go.Proofs.YtepeehjajhehfaaGreatDoor
open Go.RowKit Go.PlainAid Go.Maps Go.ChangeMaps Go.MapKept Go.WideMaps
set_option linter.unusedVariables false
set_option linter.unusedSimpArgs false

set_option maxRecDepth 20000 in
set_option maxHeartbeats 32000000 in
theorem tail70 (X : Array Value) (h : Hd) (mx an ax cn cx : Int) (pm : Option Nat) (R : List (ByteArray × ByteArray)) (B : Nat) (w wc : World) (x16 : ByteArray) (u p g : Bool) (L : List (ByteArray × ByteArray)) (u18 u19 u20 u21 u22 u23 u24 u25 u26 u27 u28 u29 u30 u31 u32 u33 u34 u35 u36 u37 u38 u39 u40 u41 u42 u43 u44 u45 u46 u47 u48 u49 u50 u51 u52 u53 u54 u55 u56 u57 u58 u59 u60 u61 u62 u63 u64 u65 u66 u67 u68 u69 u70 u71 u72 u73 u74 u75 u76 u77 u78 u79 u80 u81 u82 u83 u84 u85 u86 u87 u88 u89 u90 u91 u92 u93 u94 u95 u96 u97 u98 u99 u100 u101 u102 u103 u104 u105 u106 u107 u108 u109 u110 u111 u112 u113 u114 u115 u116 u117 u118 u119 u120 u121 u122 u123 u124 u125 u126 u127 u128 u129 u130 u131 u132 u133 u134 u135 u136 u137 u138 u139 u140 u141 u142 u143 u144 u145 u146 u147 u148 u149 u150 u151 u152 u153 u154 u155 u156 u157 u158 u159 u160 u161 u162 u163 u164 u165 u166 u167 u168 u169 u170 u171 u172 u173 u174 u175 u176 u177 u178 u179 u180 u181 u182 u183 u184 u185 u186 u187 u188 u189 u190 u191 u192 u193 u194 u195 u196 u197 u198 u199 u200 u201 u202 u203 u204 u205 u206 u207 u208 u209 u210 u211 u212 u213 u214 u215 u216 u217 u218 u219 u220 u221 u222 u223 u224 u225 u226 u227 u228 u229 u230 u231 u232 u233 u234 u235 u236 u237 u238 u239 u240 u241 u242 u243 u244 u245 u246 u247 u248 u249 u250 u251 u252 u253 u254 u255 u256 u257 u258 u259 u260 u261 u262 u263 u264 u265 u266 u267 u268 u269 u270 u271 u272 u273 u274 u275 u276 u277 u278 u279 u280 u281 u282 u283 u284 u285 u286 u287 u288 u289 u290 u291 u292 : Value) (hB : w.heap.size = B) (hS : AF B (h.tcells mx an ax cn cx pm) pm R u p g L w wc) (hY : (u || p || g) = true → AllYes h mx an ax cn cx R u p g L) (hN : (u || p || g) = false → AllNo h mx an ax cn cx R) :
    (restAl 31).wp Tryz.prog (bodyPost Tryz.prog Tryz.f51 (AllP h mx an ax cn cx R w)) ⟨((.agg X :: .pointer (some ⟨B, 0, none⟩) :: .pointer (some ⟨B + 1, 0, none⟩) :: .pointer (some ⟨B + 2, 0, none⟩) :: .nilIface :: .pointer (some ⟨B + 4, 0, none⟩) :: .pointer (some ⟨B + 5, 0, none⟩) :: .pointer (some ⟨B + 6, 0, none⟩) :: .pointer (some ⟨B + 7, 0, none⟩) :: .func (.func 71) #[] #[.pointer (some ⟨B + 6, 0, none⟩), .pointer (some ⟨B + 1, 0, none⟩), .pointer (some ⟨B + 4, 0, none⟩), .pointer (some ⟨B + 5, 0, none⟩), .pointer (some ⟨B + 2, 0, none⟩), .pointer (some ⟨B, 0, none⟩)] :: .func (.func 76) #[] #[.pointer (some ⟨B + 6, 0, none⟩), .pointer (some ⟨B + 1, 0, none⟩), .pointer (some ⟨B + 4, 0, none⟩), .pointer (some ⟨B + 5, 0, none⟩), .pointer (some ⟨B + 2, 0, none⟩), .pointer (some ⟨B, 0, none⟩)] :: .func (.func 80) #[] #[.pointer (some ⟨B + 6, 0, none⟩), .pointer (some ⟨B + 1, 0, none⟩), .pointer (some ⟨B + 4, 0, none⟩), .pointer (some ⟨B + 7, 0, none⟩), .pointer (some ⟨B + 5, 0, none⟩), .pointer (some ⟨B + 2, 0, none⟩), .pointer (some ⟨B, 0, none⟩)] :: .pointer (some ⟨B + 8, 0, none⟩) :: .pointer (some ⟨B + 8, 0, none⟩) :: .pointer (some ⟨B + 8, 0, none⟩) :: .pointer (some ⟨B + 8, 0, none⟩) :: .string x16 :: .string ⟨#[]⟩ :: u18 :: u19 :: u20 :: u21 :: u22 :: u23 :: u24 :: u25 :: u26 :: u27 :: u28 :: u29 :: u30 :: u31 :: u32 :: u33 :: u34 :: u35 :: u36 :: u37 :: u38 :: u39 :: u40 :: u41 :: u42 :: u43 :: u44 :: u45 :: u46 :: u47 :: u48 :: u49 :: u50 :: u51 :: u52 :: u53 :: u54 :: u55 :: u56 :: u57 :: u58 :: u59 :: u60 :: u61 :: u62 :: u63 :: u64 :: u65 :: u66 :: u67 :: u68 :: u69 :: u70 :: u71 :: u72 :: u73 :: u74 :: u75 :: u76 :: u77 :: u78 :: u79 :: u80 :: u81 :: u82 :: u83 :: u84 :: u85 :: u86 :: u87 :: u88 :: u89 :: u90 :: u91 :: u92 :: u93 :: u94 :: u95 :: u96 :: u97 :: u98 :: u99 :: u100 :: u101 :: u102 :: u103 :: u104 :: u105 :: u106 :: u107 :: u108 :: u109 :: u110 :: u111 :: u112 :: u113 :: u114 :: u115 :: u116 :: u117 :: u118 :: u119 :: u120 :: u121 :: u122 :: u123 :: u124 :: u125 :: u126 :: u127 :: u128 :: u129 :: u130 :: u131 :: u132 :: u133 :: u134 :: u135 :: u136 :: u137 :: u138 :: u139 :: u140 :: u141 :: u142 :: u143 :: u144 :: u145 :: u146 :: u147 :: u148 :: u149 :: u150 :: u151 :: u152 :: u153 :: u154 :: u155 :: u156 :: u157 :: u158 :: u159 :: u160 :: u161 :: u162 :: u163 :: u164 :: u165 :: u166 :: u167 :: u168 :: u169 :: u170 :: u171 :: u172 :: u173 :: u174 :: u175 :: u176 :: u177 :: u178 :: u179 :: u180 :: u181 :: u182 :: u183 :: u184 :: u185 :: u186 :: u187 :: u188 :: u189 :: u190 :: u191 :: u192 :: u193 :: u194 :: u195 :: u196 :: u197 :: u198 :: u199 :: u200 :: u201 :: u202 :: u203 :: u204 :: u205 :: u206 :: u207 :: u208 :: u209 :: u210 :: u211 :: u212 :: u213 :: u214 :: u215 :: u216 :: u217 :: u218 :: u219 :: u220 :: u221 :: u222 :: u223 :: u224 :: u225 :: u226 :: u227 :: u228 :: u229 :: u230 :: u231 :: u232 :: u233 :: u234 :: u235 :: u236 :: u237 :: u238 :: u239 :: u240 :: u241 :: u242 :: u243 :: u244 :: u245 :: u246 :: u247 :: u248 :: u249 :: u250 :: u251 :: u252 :: u253 :: u254 :: u255 :: u256 :: u257 :: u258 :: u259 :: u260 :: u261 :: u262 :: u263 :: u264 :: u265 :: u266 :: u267 :: u268 :: u269 :: u270 :: u271 :: u272 :: u273 :: u274 :: u275 :: u276 :: u277 :: u278 :: u279 :: u280 :: u281 :: u282 :: u283 :: u284 :: u285 :: u286 :: u287 :: u288 :: u289 :: u290 :: u291 :: u292 :: []) : List Value).toArray, []⟩ wc := by
  conv in (restAl 31) => whnf
  have HS := Lib.hid hS
  have HBB := Lib.hid hB
  have HYS := Lib.hid hY
  have HNO := Lib.hid hN
  have d19 : wc.cell? ⟨B, 19, none⟩ = some (.int .i64 0) := hS.hd.cell 19
  have HS2 := Lib.hid (hS.alloc (.cells #[.int .i64 0] 73))
  clear hS hB hY hN
  go_upto_if 250 with fail
  rename_i kT hT
  go_cut [] (fun wx => Hid (AF B (h.tcells mx an ax cn cx pm) pm R u p g L w wx))
  case first => as_aux_lemma =>
    rename_i jN kN gN1 gN2; repeat (rename_i hh; clear hh); try (rename_i kX1; have := kX1; clear this; repeat (rename_i hh; clear hh)); try (rename_i kX2; have := kX2; clear this; repeat (rename_i hh; clear hh)); try (rename_i kX3; have := kX3; clear this; repeat (rename_i hh; clear hh)); try (rename_i kX4; have := kX4; clear this; repeat (rename_i hh; clear hh)); try (rename_i kX5; have := kX5; clear this; repeat (rename_i hh; clear hh)); try (rename_i kX6; have := kX6; clear this; repeat (rename_i hh; clear hh))
    clear hT
    go_wp2_with fail
    go_meet
    case rel => exact HS2
  case rest => as_aux_lemma =>
    have HS3 := hcut
    exact hT _ _ (tail75 X h mx an ax cn cx pm R B w _ x16 u p g L _ _ _ _ _ _ _ _ _ _ _ _ _ _ _ _ _ _ _ _ _ _ _ _ _ _ _ _ _ _ _ _ _ _ _ _ _ _ _ _ _ _ _ _ _ _ _ _ _ _ _ _ _ _ _ _ _ _ _ _ _ _ _ _ _ _ _ _ _ _ _ _ _ _ _ _ _ _ _ _ _ _ _ _ _ _ _ _ _ _ _ _ _ _ _ _ _ _ _ _ _ _ _ _ _ _ _ _ _ _ _ _ _ _ _ _ _ _ _ _ _ _ _ _ _ _ _ _ _ _ _ _ _ _ _ _ _ _ _ _ _ _ _ _ _ _ _ _ _ _ _ _ _ _ _ _ _ _ _ _ _ _ _ _ _ _ _ _ _ _ _ _ _ _ _ _ _ _ _ _ _ _ _ _ _ _ _ _ _ _ _ _ _ _ _ _ _ _ _ _ _ _ _ _ _ _ _ _ _ _ _ _ _ _ _ _ _ _ _ _ _ _ _ _ _ _ _ _ _ _ _ _ _ _ _ _ _ _ _ _ _ _ _ _ _ _ _ _ _ _ _ _ _ _ _ _ _ _ _ _ _ _ _ _ _ _ _ _ _ _ _ _ _ _ _ HBB.out HS3.out HYS.out HNO.out)
end Go.Proofs.YtepeehjajhehfaaGreatDoor
namespace Go.Proofs.YtepeehjajhehfaaGreatDoor
open Go.RowKit Go.PlainAid Go.Maps Go.ChangeMaps Go.MapKept Go.WideMaps
set_option linter.unusedVariables false
set_option linter.unusedSimpArgs false

set_option maxRecDepth 20000 in
set_option maxHeartbeats 32000000 in
theorem tail65 (X : Array Value) (h : Hd) (mx an ax cn cx : Int) (pm : Option Nat) (R : List (ByteArray × ByteArray)) (B : Nat) (w wc : World) (x16 : ByteArray) (u p g : Bool) (L : List (ByteArray × ByteArray)) (u18 u19 u20 u21 u22 u23 u24 u25 u26 u27 u28 u29 u30 u31 u32 u33 u34 u35 u36 u37 u38 u39 u40 u41 u42 u43 u44 u45 u46 u47 u48 u49 u50 u51 u52 u53 u54 u55 u56 u57 u58 u59 u60 u61 u62 u63 u64 u65 u66 u67 u68 u69 u70 u71 u72 u73 u74 u75 u76 u77 u78 u79 u80 u81 u82 u83 u84 u85 u86 u87 u88 u89 u90 u91 u92 u93 u94 u95 u96 u97 u98 u99 u100 u101 u102 u103 u104 u105 u106 u107 u108 u109 u110 u111 u112 u113 u114 u115 u116 u117 u118 u119 u120 u121 u122 u123 u124 u125 u126 u127 u128 u129 u130 u131 u132 u133 u134 u135 u136 u137 u138 u139 u140 u141 u142 u143 u144 u145 u146 u147 u148 u149 u150 u151 u152 u153 u154 u155 u156 u157 u158 u159 u160 u161 u162 u163 u164 u165 u166 u167 u168 u169 u170 u171 u172 u173 u174 u175 u176 u177 u178 u179 u180 u181 u182 u183 u184 u185 u186 u187 u188 u189 u190 u191 u192 u193 u194 u195 u196 u197 u198 u199 u200 u201 u202 u203 u204 u205 u206 u207 u208 u209 u210 u211 u212 u213 u214 u215 u216 u217 u218 u219 u220 u221 u222 u223 u224 u225 u226 u227 u228 u229 u230 u231 u232 u233 u234 u235 u236 u237 u238 u239 u240 u241 u242 u243 u244 u245 u246 u247 u248 u249 u250 u251 u252 u253 u254 u255 u256 u257 u258 u259 u260 u261 u262 u263 u264 u265 u266 u267 u268 u269 u270 u271 u272 u273 u274 u275 u276 u277 u278 u279 u280 u281 u282 u283 u284 u285 u286 u287 u288 u289 u290 u291 u292 : Value) (hB : w.heap.size = B) (hT : ¬ TyErr h) (hN : ¬ (hoB h.ty = false ∧ h.size < 0)) (hS : AF B (h.tcells mx an ax cn cx pm) pm R u p g L w wc) (hL : LE h mx an ax cn cx R L) (hLs : ∀ x ∈ L, x.1.size ≤ 4000000000 ∧ x.2.size ≤ 4000000000) (hu : u = (R.isEmpty && UF h mx an ax cn cx)) (hp : p = PF h) (hg : g = (R.isEmpty && GF h mx an ax cn cx)) :
    (restAl 30).wp Tryz.prog (bodyPost Tryz.prog Tryz.f51 (AllP h mx an ax cn cx R w)) ⟨((.agg X :: .pointer (some ⟨B, 0, none⟩) :: .pointer (some ⟨B + 1, 0, none⟩) :: .pointer (some ⟨B + 2, 0, none⟩) :: .nilIface :: .pointer (some ⟨B + 4, 0, none⟩) :: .pointer (some ⟨B + 5, 0, none⟩) :: .pointer (some ⟨B + 6, 0, none⟩) :: .pointer (some ⟨B + 7, 0, none⟩) :: .func (.func 71) #[] #[.pointer (some ⟨B + 6, 0, none⟩), .pointer (some ⟨B + 1, 0, none⟩), .pointer (some ⟨B + 4, 0, none⟩), .pointer (some ⟨B + 5, 0, none⟩), .pointer (some ⟨B + 2, 0, none⟩), .pointer (some ⟨B, 0, none⟩)] :: .func (.func 76) #[] #[.pointer (some ⟨B + 6, 0, none⟩), .pointer (some ⟨B + 1, 0, none⟩), .pointer (some ⟨B + 4, 0, none⟩), .pointer (some ⟨B + 5, 0, none⟩), .pointer (some ⟨B + 2, 0, none⟩), .pointer (some ⟨B, 0, none⟩)] :: .func (.func 80) #[] #[.pointer (some ⟨B + 6, 0, none⟩), .pointer (some ⟨B + 1, 0, none⟩), .pointer (some ⟨B + 4, 0, none⟩), .pointer (some ⟨B + 7, 0, none⟩), .pointer (some ⟨B + 5, 0, none⟩), .pointer (some ⟨B + 2, 0, none⟩), .pointer (some ⟨B, 0, none⟩)] :: .pointer (some ⟨B + 8, 0, none⟩) :: .pointer (some ⟨B + 8, 0, none⟩) :: .pointer (some ⟨B + 8, 0, none⟩) :: .pointer (some ⟨B + 8, 0, none⟩) :: .string x16 :: .string ⟨#[]⟩ :: u18 :: u19 :: u20 :: u21 :: u22 :: u23 :: u24 :: u25 :: u26 :: u27 :: u28 :: u29 :: u30 :: u31 :: u32 :: u33 :: u34 :: u35 :: u36 :: u37 :: u38 :: u39 :: u40 :: u41 :: u42 :: u43 :: u44 :: u45 :: u46 :: u47 :: u48 :: u49 :: u50 :: u51 :: u52 :: u53 :: u54 :: u55 :: u56 :: u57 :: u58 :: u59 :: u60 :: u61 :: u62 :: u63 :: u64 :: u65 :: u66 :: u67 :: u68 :: u69 :: u70 :: u71 :: u72 :: u73 :: u74 :: u75 :: u76 :: u77 :: u78 :: u79 :: u80 :: u81 :: u82 :: u83 :: u84 :: u85 :: u86 :: u87 :: u88 :: u89 :: u90 :: u91 :: u92 :: u93 :: u94 :: u95 :: u96 :: u97 :: u98 :: u99 :: u100 :: u101 :: u102 :: u103 :: u104 :: u105 :: u106 :: u107 :: u108 :: u109 :: u110 :: u111 :: u112 :: u113 :: u114 :: u115 :: u116 :: u117 :: u118 :: u119 :: u120 :: u121 :: u122 :: u123 :: u124 :: u125 :: u126 :: u127 :: u128 :: u129 :: u130 :: u131 :: u132 :: u133 :: u134 :: u135 :: u136 :: u137 :: u138 :: u139 :: u140 :: u141 :: u142 :: u143 :: u144 :: u145 :: u146 :: u147 :: u148 :: u149 :: u150 :: u151 :: u152 :: u153 :: u154 :: u155 :: u156 :: u157 :: u158 :: u159 :: u160 :: u161 :: u162 :: u163 :: u164 :: u165 :: u166 :: u167 :: u168 :: u169 :: u170 :: u171 :: u172 :: u173 :: u174 :: u175 :: u176 :: u177 :: u178 :: u179 :: u180 :: u181 :: u182 :: u183 :: u184 :: u185 :: u186 :: u187 :: u188 :: u189 :: u190 :: u191 :: u192 :: u193 :: u194 :: u195 :: u196 :: u197 :: u198 :: u199 :: u200 :: u201 :: u202 :: u203 :: u204 :: u205 :: u206 :: u207 :: u208 :: u209 :: u210 :: u211 :: u212 :: u213 :: u214 :: u215 :: u216 :: u217 :: u218 :: u219 :: u220 :: u221 :: u222 :: u223 :: u224 :: u225 :: u226 :: u227 :: u228 :: u229 :: u230 :: u231 :: u232 :: u233 :: u234 :: u235 :: u236 :: u237 :: u238 :: u239 :: u240 :: u241 :: u242 :: u243 :: u244 :: u245 :: u246 :: u247 :: u248 :: u249 :: u250 :: u251 :: u252 :: u253 :: u254 :: u255 :: u256 :: u257 :: u258 :: u259 :: u260 :: u261 :: u262 :: u263 :: u264 :: u265 :: u266 :: u267 :: u268 :: u269 :: u270 :: u271 :: u272 :: u273 :: u274 :: u275 :: u276 :: u277 :: u278 :: u279 :: u280 :: u281 :: u282 :: u283 :: u284 :: u285 :: u286 :: u287 :: u288 :: u289 :: u290 :: u291 :: u292 :: []) : List Value).toArray, []⟩ wc := by
  conv in (restAl 30) => whnf
  have HS := Lib.hid hS
  have HBB := Lib.hid hB
  have HTY := Lib.hid hT
  have HNS := Lib.hid hN
  have HLE := Lib.hid hL
  have HLZ := Lib.hid hLs
  have HUPG := Lib.hid (And.intro hu (And.intro hp hg))
  have HO := Lib.hid hS.ow
  have HLT := Lib.hid hS.lt
  obtain ⟨k2, f2⟩ := hS.c2
  clear hS hB hT hN hL hLs hu hp hg
  go_upto_block 6 with (at_range; refine wpList_range_own _ rfl _ 72 rfl 9 9 strKeyed Tryz.underlying72 _ (B + 3) L.length _ rfl HO.out ?_; intro w0 hrg0 hg0 hs0)
  try go_frame
  rename_i kT hK
  have HS0 := Lib.hid (HS.out.grown hg0 (fun k hk => by cases hk))
  have HRG0 := Lib.hid hrg0
  clear hrg0 hg0 hs0 k2 f2
  go_cut [4] (fun e wx => e = .nilIface ∧ Hid (AF B (h.tcells mx an ax cn cx pm) pm R u p g L w wx) ∧ Hid (∀ x ∈ tab L, x.1.size ≠ 0 ∧ ¬ fc 61 x.1 < x.1.size))
  case first => as_aux_lemma =>
    rename_i jN kN gN1 gN2; repeat (rename_i hh; clear hh); try (rename_i kX1; have := kX1; clear this; repeat (rename_i hh; clear hh)); try (rename_i kX2; have := kX2; clear this; repeat (rename_i hh; clear hh)); try (rename_i kX3; have := kX3; clear this; repeat (rename_i hh; clear hh)); try (rename_i kX4; have := kX4; clear this; repeat (rename_i hh; clear hh)); try (rename_i kX5; have := kX5; clear this; repeat (rename_i hh; clear hh)); try (rename_i kX6; have := kX6; clear this; repeat (rename_i hh; clear hh))
    clear hK
    go_wp2_with fail
    go_loopw [4] (fun e wr => e = .nilIface ∧ ∃ (left : Lit → Bool) (cnt : Nat), Hid (wr.ranges (H := Unit) Tryz.prog 9 (plainElem Tryz.prog 9) (B + 3) wc.heap.size L.length (mapOf L) left cnt) ∧ Hid (AF B (h.tcells mx an ax cn cx pm) pm R u p g L w wr) ∧ Hid (∀ x ∈ tab L, left (.string (bl x.1)) = false → x.1.size ≠ 0 ∧ ¬ fc 61 x.1 < x.1.size)) (fun _ wr => wr.rangeLeft (B + 3) wc.heap.size)
    case atStart => exact ⟨rfl, _, _, HRG0, HS0, Lib.hid (fun x hx hl => absurd ((has_mapOf L x.1).2 ⟨x, mem_tab hx, rfl⟩) (by rw [hl]; decide))⟩
    case round =>
      obtain ⟨rfl, left, cnt, hrg, hA, hV⟩ := hrel
      go_wp2_with (at_next; refine wpList_next_ranges_ss _ rfl _ rfl (B + 3) wc.heap.size L.length _ _ _ rfl hrg.out ?_ ?_)
      · intro hc0 hl0
        have HV : Hid (∀ x ∈ tab L, x.1.size ≠ 0 ∧ ¬ fc 61 x.1 < x.1.size) := Lib.hid (fun x hx => hV.out x hx (hl0 _))
        clear hc0 hl0
        go_wp2_with fail
        go_meet
        case rel => exact ⟨rfl, hA, HV⟩
      · intro x c w1 cnt1 hxs hcs hlx hat hrg1 hlt hg1 hs1 hen
        have HM := Lib.hid (mem_of_at hat)
        obtain ⟨z1, z2⟩ := HLZ.out _ (mem_tab HM.out)
        have HA1 := Lib.hid (hA.out.grown hg1 (fun k hk => by cases hk; have := HLT.out; omega))
        have HRG1 := Lib.hid hrg1
        have HLT1 := Lib.hid hlt
        clear hat hrg1 hg1 hs1 hlx hlt hxs hcs
        go_upto_if 244 with (go_at_call 104; refine (validTold x c _ (by omega) (by omega)).mono ?_; rintro e w2 ⟨b, rfl, hb, hw9⟩; subst hw9; have HB := Lib.hid hb; clear hb)
        cases b with
        | true =>
          have HV1 : Hid (∀ y ∈ tab L, (left (.string (bl y.1)) && !(Lit.string (bl y.1)).sameKey (.string (bl x))) = false → y.1.size ≠ 0 ∧ ¬ fc 61 y.1 < y.1.size) := Lib.hid (fun y hy hl => by
            by_cases he : y.1 = x
            · rw [he]; exact HB.out.1 rfl
            · refine hV.out y hy ?_
              rw [sameKey_ne (fun e => he (bl_inj (by injection e))), Bool.not_false, Bool.and_true] at hl
              exact hl)
          go_wp2_with fail
          go_roundw
          case rel => exact ⟨rfl, _, cnt1, HRG1, HA1, HV1⟩
          case measure => rw [HRG1.out.left_eq, hrg.out.left_eq]; exact HLT1.out
        | false =>
          have HERR : Hid (AllNo h mx an ax cn cx R) := Lib.hid (.inr (.inr (.inl ⟨L, HLE.out, _, HM.out, HB.out⟩)))
          obtain ⟨k1, f1⟩ := HA1.out.c1
          obtain ⟨k2, f2⟩ := HA1.out.c2
          go_upto_region 69 with fail
          rename_i kE hE
          go_cut [4] (fun v wx => (∃ x, v = .iface 144 x) ∧ wx.cell? ⟨B + 1, 0, none⟩ = some (.int .i64 0) ∧ wx.cell? ⟨B + 2, 0, none⟩ = some (.map none) ∧ Hid (Below B w wx))
          case first =>
            rename_i jN kN gN1 gN2; repeat (rename_i hh; clear hh); try (rename_i kX1; have := kX1; clear this; repeat (rename_i hh; clear hh)); try (rename_i kX2; have := kX2; clear this; repeat (rename_i hh; clear hh)); try (rename_i kX3; have := kX3; clear this; repeat (rename_i hh; clear hh)); try (rename_i kX4; have := kX4; clear this; repeat (rename_i hh; clear hh)); try (rename_i kX5; have := kX5; clear this; repeat (rename_i hh; clear hh)); try (rename_i kX6; have := kX6; clear this; repeat (rename_i hh; clear hh))
            clear hE
            go_wp2_with (refine wpList_bs1s (o := ⟨some 245, _, _, _, _, _⟩) _ rfl (.const _) rfl _ rfl ?_; intro w8 vE hg8 hvE; have HS8 := Lib.hid (HA1.out.grown hg8 (fun k hk => by cases hk)); obtain ⟨j1, l1⟩ := HS8.out.c1; obtain ⟨j2, l2⟩ := HS8.out.c2; clear hg8 hvE)
            go_meet
            case rel => exact ⟨⟨_, rfl⟩, (HS8.out.errEnd 0 none).1, (HS8.out.errEnd 0 none).2.1, Lib.hid (HS8.out.errEnd 0 none).2.2⟩
          case rest => as_aux_lemma =>
            obtain ⟨⟨x9, rfl⟩, e1, e2, e3⟩ := hcut
            refine hE _ _ ?_
            clear hE
            refine wp_ret ?_
            try simp only [Exit.inBlock, Exit.then]
            refine bodyPost_ret (results_cct rfl _ _ rfl rfl (run_loadVar_c _ _ _ Tryz.underlying73 rfl _ _ e1) (run_loadVar_c _ _ _ Tryz.underlying72 rfl _ _ e2)) rfl ?_
            exact .inl ⟨⟨0, none, _, rfl⟩, HERR.out, by rw [HBB.out]; exact e3.out⟩
  case rest => as_aux_lemma =>
    obtain ⟨rfl, HS2, HV⟩ := hcut
    have HY : (u || p || g) = true → AllYes h mx an ax cn cx R u p g L := fun h9 => ⟨HTY.out, HNS.out, HLE.out, HV.out, HUPG.out.1, HUPG.out.2.1, HUPG.out.2.2, h9⟩
    have HN9 : (u || p || g) = false → AllNo h mx an ax cn cx R := fun h9 => .inr (.inr (.inr (by rw [← HUPG.out.1, ← HUPG.out.2.1, ← HUPG.out.2.2]; exact h9)))
    exact hK _ _ (tail70 X h mx an ax cn cx pm R B w _ x16 u p g L _ _ _ _ _ _ _ _ _ _ _ _ _ _ _ _ _ _ _ _ _ _ _ _ _ _ _ _ _ _ _ _ _ _ _ _ _ _ _ _ _ _ _ _ _ _ _ _ _ _ _ _ _ _ _ _ _ _ _ _ _ _ _ _ _ _ _ _ _ _ _ _ _ _ _ _ _ _ _ _ _ _ _ _ _ _ _ _ _ _ _ _ _ _ _ _ _ _ _ _ _ _ _ _ _ _ _ _ _ _ _ _ _ _ _ _ _ _ _ _ _ _ _ _ _ _ _ _ _ _ _ _ _ _ _ _ _ _ _ _ _ _ _ _ _ _ _ _ _ _ _ _ _ _ _ _ _ _ _ _ _ _ _ _ _ _ _ _ _ _ _ _ _ _ _ _ _ _ _ _ _ _ _ _ _ _ _ _ _ _ _ _ _ _ _ _ _ _ _ _ _ _ _ _ _ _ _ _ _ _ _ _ _ _ _ _ _ _ _ _ _ _ _ _ _ _ _ _ _ _ _ _ _ _ _ _ _ _ _ _ _ _ _ _ _ _ _ _ _ _ _ _ _ _ _ _ _ _ _ _ _ _ _ _ _ _ _ _ _ _ _ _ _ _ _ HBB.out HS2.out HY HN9)
end Go.Proofs.YtepeehjajhehfaaGreatDoor
