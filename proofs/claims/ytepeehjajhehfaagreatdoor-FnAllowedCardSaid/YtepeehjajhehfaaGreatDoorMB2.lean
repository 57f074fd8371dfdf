/- allowedFormats: type g. allowedFormats: the type of the header. -/
import Derived.Test.YtepeehjajhehfaaGreatDoorMB1
import Derived.Test.YtepeehjajhehfaaGreatDoorHq
import Derived.Deep.CutBlock
import Derived.Deep.DeepCutAuto
import Derived.Deep.RegionHeld3
import Derived.RegionTactic
namespace Go.Proofs.YtepeehjajhehfaaGreatDoor
open Go.RowKit Go.PlainAid Go.Maps Go.ChangeMaps Go.MapKept Go.WideMaps
set_option linter.unusedVariables false
set_option linter.unusedSimpArgs false

/-- The branch of type g. -/
noncomputable def gCond : Code := match restAl 26 with
  | .seq (.seq _ (.block _ (.seq _ (.cond _ _ (.seq _ (.cond _ _ (.seq _ c))))))) _ => c
  | c => c
/-- The header that is compared with one of type g. -/
def zcells (t : Int) (nm : ByteArray) (pm : Option Nat) : List Value := [.int .u8 t, .string nm, .string ⟨#[]⟩, .int .i64 0, .int .i64 0, .int .i64 0, .int .i64 0, .string ⟨#[]⟩, .string ⟨#[]⟩, .int .u64 0, .int .i64 0, .int .u64 0, .int .i64 0, .int .u64 0, .int .i64 0, .int .i64 0, .int .i64 0, .map none, .map pm, .int .i64 0]
theorem thsize (h : Hd) (mx an ax cn cx : Int) (pm : Option Nat) : (Tryz.prog.info? 75).map (·.size) = some (h.tcells mx an ax cn cx pm).toArray.size := by
  show _ = some 20
  kernel_rfl
theorem zsize (t : Int) (nm : ByteArray) (pm : Option Nat) : (Tryz.prog.info? 75).map (·.size) = some (zcells t nm pm).toArray.size := by
  show _ = some 20
  kernel_rfl
/-- A whole struct stored into a cell row just made: the world behind it by name. -/
theorem wpList_store_fresh {P : Program} {ops : Array Oper} {rest : List Oper} {o : Oper} {a : Act} (w1 : World) {Q : Exit → Act → World → Prop} (hgd : o.guard = none) (ty : TypeId) (x y : Operand) (ho : o.op = .store ty x y)
    (Z cells : Array Value) (hx : a.eval x = .pointer (some ⟨w1.heap.size, 0, none⟩)) (hy : a.eval y = .agg cells) (hi : (P.info? ty).map (·.size) = some cells.size)
    (hold : Z.size = cells.size) (h1 : cells.all (·.oneCell') = true)
    (h : ∀ w', w1.grownBy w' none → w'.heap[w1.heap.size]? = some (Obj.cells cells ty (0, 0)) → wpList P ops Q rest (a.put o.dst undef) w') : wpList P ops Q (o :: rest) a (w1.alloc (Obj.cells Z ty)) := by
  refine wpList_store_row hgd ty x y ho w1.heap.size cells hx hy ty Z (heap_alloc_new _ _) hi hold h1 (h _ ?_ ?_)
  · have g1 := World.grownBy_alloc w1 (Obj.cells Z ty) none
    have g2 := setRow_grown (w1.alloc (Obj.cells Z ty)) w1.heap.size cells
    exact ⟨g2.os.trans g1.os, g2.tape.trans g1.tape, g2.output.trans g1.output, Nat.le_trans g1.size g2.size, fun k hk hr => (g2.block k (Nat.lt_of_lt_of_le hk g1.size) (fun e => by injection e with e; omega)).trans (g1.block k hk hr)⟩
  · have h9 := setRow_blk (w1.alloc (Obj.cells Z ty)) w1.heap.size ty Z.toList cells.toList (by show _ = some (Obj.cells Z.toList.toArray ty (0, 0)); rw [Array.toArray_toList]; exact heap_alloc_new _ _)
    unfold Blk at h9
    rw [Array.toArray_toList] at h9
    exact h9
theorem zone (t : Int) (nm : ByteArray) (pm : Option Nat) : (zcells t nm pm).toArray.all (·.oneCell') = true := by simp [zcells, Value.oneCell']
set_option maxRecDepth 20000 in
set_option maxHeartbeats 8000000 in
theorem gPath (X : Array Value) (h : Hd) (mx an ax cn cx : Int) (pm : Option Nat) (R : List (ByteArray × ByteArray)) (B : Nat) (w wc : World) (u p g : Bool) (L : List (ByteArray × ByteArray)) (u18 u19 u20 u21 u22 u23 u24 u25 u26 u27 u28 u29 u30 u31 u32 u33 u34 u35 u36 u37 u38 u39 u40 u41 u42 u43 u44 u45 u46 u47 u48 u49 u50 u51 u52 u53 u54 u55 u56 u57 u58 u59 u60 u61 u62 u63 u64 u65 u66 u67 u68 u69 u70 u71 u72 u73 u74 u75 u76 u77 u78 u79 u80 u81 u82 u83 u84 u85 u86 u87 u88 u89 u90 u91 u92 u93 u94 u95 u96 u97 u98 u99 u100 u101 u102 u103 u104 u105 u106 u107 u108 u109 u110 u111 u112 u113 u114 u115 u116 u117 u118 u119 u120 u121 u122 u123 u124 u125 u126 u127 u128 u129 u130 u131 u132 u133 u134 u135 u136 u137 u138 u139 u140 u141 u142 u143 u144 u146 u147 u148 u149 u150 u151 u152 u153 u154 u155 u156 u157 u158 u159 u160 u161 u162 u163 u164 u165 u166 u167 u168 u169 u170 u171 u172 u173 u174 u175 u176 u177 u178 u179 u180 u181 u182 u183 u184 u185 u186 u187 u188 u189 u190 u191 u192 u193 u194 u195 u196 u197 u198 u199 u200 u201 u202 u203 u204 u205 u206 u207 u208 u209 u210 u211 u212 u213 u214 u215 u216 u217 u218 u219 u220 u221 u222 u223 u224 u225 u226 u227 u228 u229 u230 u231 u232 u233 u234 u235 u236 u237 u238 u239 u240 u241 u242 u243 u244 u245 u246 u247 u248 u249 u250 u251 u252 u253 u254 u255 u256 u257 u258 u259 u260 u261 u262 u263 u264 u265 u266 u267 u268 u269 u270 u271 u272 u273 u274 u275 u276 u277 u278 u279 u280 u281 u282 u283 u284 u285 u286 u287 u288 u289 u290 u291 u292 : Value) (K : Act → World → Prop) (hB : w.heap.size = B) (hS : AF B (h.tcells mx an ax cn cx pm) pm R u p g L w wc) (hT : h.ty = 103) (hnz : ¬ (h.mn = 0 ∧ mx = 0)) :
    gCond.wp Tryz.prog (Exit.inBlock 0 (Exit.then K (bodyPost Tryz.prog Tryz.f51 (AllP h mx an ax cn cx R w)))) ⟨((.agg X :: .pointer (some ⟨B, 0, none⟩) :: .pointer (some ⟨B + 1, 0, none⟩) :: .pointer (some ⟨B + 2, 0, none⟩) :: .nilIface :: .pointer (some ⟨B + 4, 0, none⟩) :: .pointer (some ⟨B + 5, 0, none⟩) :: .pointer (some ⟨B + 6, 0, none⟩) :: .pointer (some ⟨B + 7, 0, none⟩) :: .func (.func 71) #[] #[.pointer (some ⟨B + 6, 0, none⟩), .pointer (some ⟨B + 1, 0, none⟩), .pointer (some ⟨B + 4, 0, none⟩), .pointer (some ⟨B + 5, 0, none⟩), .pointer (some ⟨B + 2, 0, none⟩), .pointer (some ⟨B, 0, none⟩)] :: .func (.func 76) #[] #[.pointer (some ⟨B + 6, 0, none⟩), .pointer (some ⟨B + 1, 0, none⟩), .pointer (some ⟨B + 4, 0, none⟩), .pointer (some ⟨B + 5, 0, none⟩), .pointer (some ⟨B + 2, 0, none⟩), .pointer (some ⟨B, 0, none⟩)] :: .func (.func 80) #[] #[.pointer (some ⟨B + 6, 0, none⟩), .pointer (some ⟨B + 1, 0, none⟩), .pointer (some ⟨B + 4, 0, none⟩), .pointer (some ⟨B + 7, 0, none⟩), .pointer (some ⟨B + 5, 0, none⟩), .pointer (some ⟨B + 2, 0, none⟩), .pointer (some ⟨B, 0, none⟩)] :: .pointer (some ⟨B + 8, 0, none⟩) :: .pointer (some ⟨B + 8, 0, none⟩) :: .pointer (some ⟨B + 8, 0, none⟩) :: .pointer (some ⟨B + 8, 0, none⟩) :: .string ⟨#[]⟩ :: .string ⟨#[]⟩ :: u18 :: u19 :: u20 :: u21 :: u22 :: u23 :: u24 :: u25 :: u26 :: u27 :: u28 :: u29 :: u30 :: u31 :: u32 :: u33 :: u34 :: u35 :: u36 :: u37 :: u38 :: u39 :: u40 :: u41 :: u42 :: u43 :: u44 :: u45 :: u46 :: u47 :: u48 :: u49 :: u50 :: u51 :: u52 :: u53 :: u54 :: u55 :: u56 :: u57 :: u58 :: u59 :: u60 :: u61 :: u62 :: u63 :: u64 :: u65 :: u66 :: u67 :: u68 :: u69 :: u70 :: u71 :: u72 :: u73 :: u74 :: u75 :: u76 :: u77 :: u78 :: u79 :: u80 :: u81 :: u82 :: u83 :: u84 :: u85 :: u86 :: u87 :: u88 :: u89 :: u90 :: u91 :: u92 :: u93 :: u94 :: u95 :: u96 :: u97 :: u98 :: u99 :: u100 :: u101 :: u102 :: u103 :: u104 :: u105 :: u106 :: u107 :: u108 :: u109 :: u110 :: u111 :: u112 :: u113 :: u114 :: u115 :: u116 :: u117 :: u118 :: u119 :: u120 :: u121 :: u122 :: u123 :: u124 :: u125 :: u126 :: u127 :: u128 :: u129 :: u130 :: u131 :: u132 :: u133 :: u134 :: u135 :: u136 :: u137 :: u138 :: u139 :: u140 :: u141 :: u142 :: u143 :: u144 :: .bool true :: u146 :: u147 :: u148 :: u149 :: u150 :: u151 :: u152 :: u153 :: u154 :: u155 :: u156 :: u157 :: u158 :: u159 :: u160 :: u161 :: u162 :: u163 :: u164 :: u165 :: u166 :: u167 :: u168 :: u169 :: u170 :: u171 :: u172 :: u173 :: u174 :: u175 :: u176 :: u177 :: u178 :: u179 :: u180 :: u181 :: u182 :: u183 :: u184 :: u185 :: u186 :: u187 :: u188 :: u189 :: u190 :: u191 :: u192 :: u193 :: u194 :: u195 :: u196 :: u197 :: u198 :: u199 :: u200 :: u201 :: u202 :: u203 :: u204 :: u205 :: u206 :: u207 :: u208 :: u209 :: u210 :: u211 :: u212 :: u213 :: u214 :: u215 :: u216 :: u217 :: u218 :: u219 :: u220 :: u221 :: u222 :: u223 :: u224 :: u225 :: u226 :: u227 :: u228 :: u229 :: u230 :: u231 :: u232 :: u233 :: u234 :: u235 :: u236 :: u237 :: u238 :: u239 :: u240 :: u241 :: u242 :: u243 :: u244 :: u245 :: u246 :: u247 :: u248 :: u249 :: u250 :: u251 :: u252 :: u253 :: u254 :: u255 :: u256 :: u257 :: u258 :: u259 :: u260 :: u261 :: u262 :: u263 :: u264 :: u265 :: u266 :: u267 :: u268 :: u269 :: u270 :: u271 :: u272 :: u273 :: u274 :: u275 :: u276 :: u277 :: u278 :: u279 :: u280 :: u281 :: u282 :: u283 :: u284 :: u285 :: u286 :: u287 :: u288 :: u289 :: u290 :: u291 :: u292 :: []) : List Value).toArray, []⟩ wc := by
  conv in gCond => whnf
  have HS := Lib.hid hS
  have HBB := Lib.hid hB
  have HTY := Lib.hid hT
  have HNZ := Lib.hid hnz
  have HERR : Hid (AllNo h mx an ax cn cx R) := Lib.hid (.inl (.inr (.inr (.inr (.inr hT)))))
  have d0 : wc.cell? ⟨B, 0, none⟩ = some (.int .u8 103) := by rw [← hT]; exact hS.hd.cell 0
  have d1 : wc.cell? ⟨B, 1, none⟩ = some (.string h.name) := hS.hd.cell 1
  have d17 : wc.cell? ⟨B, 17, none⟩ = some (.map none) := hS.hd.cell 17
  have d18 : wc.cell? ⟨B, 18, none⟩ = some (.map pm) := hS.hd.cell 18
  have d19 : wc.cell? ⟨B, 19, none⟩ = some (.int .i64 0) := hS.hd.cell 19
  have HLW : Hid (B + 7 < wc.heap.size) := Lib.hid hS.lt
  clear hS hB hT hnz
  obtain ⟨Y, hY⟩ : ∃ Y, (zcells 103 h.name pm).toArray = Y := ⟨_, rfl⟩
  have HYS : Hid ((Tryz.prog.info? 75).map (·.size) = some Y.size) := Lib.hid (by rw [← hY]; exact zsize _ _ _)
  have HY1 : Hid (Y.all (·.oneCell') = true) := Lib.hid (by rw [← hY]; exact zone _ _ _)
  have HY20 : Hid (20 = Y.size) := Lib.hid (by rw [← hY]; rfl)
  have HYE := Lib.hid hY
  go_upto_region 40 with (refine wpList_store_fresh wc (o := ⟨none, _, _, _, _, _⟩) rfl 75 (.tmp 18) (.tmp 157) rfl _ Y rfl (by rw [← hY]; rfl) HYS.out (by rw [← HY20.out]; rfl) HY1.out ?_; intro w9 hg9 hb9; have HS9 := Lib.hid (HS.out.grown hg9 (fun k hk => by cases hk)); have HB9 := Lib.hid hb9; clear hg9 hb9)
  try go_frame
  obtain ⟨XA, hXA⟩ : ∃ XA, (h.tcells mx an ax cn cx pm).toArray = XA := ⟨_, rfl⟩
  have HBX : Hid (w9.heap[B]? = some (Obj.cells XA 75 (0, 0))) := Lib.hid (by rw [← hXA]; exact HS9.out.hd)
  have HXS : Hid ((Tryz.prog.info? 75).map (·.size) = some XA.size) := Lib.hid (by rw [← hXA]; exact thsize _ _ _ _ _ _ _)
  have HHE : ∀ w, Hid (Calls Tryz.prog 100 #[.agg XA, .agg Y] w fun e w' => e = .returned (.bool false) ∧ Below w.heap.size w w') := fun w => Lib.hid (headerEq XA Y 103 h.name h.link h.un h.gn ⟨#[]⟩ ⟨#[]⟩ ⟨#[]⟩ h.size h.mode h.uid h.gid h.mn mx an ax cn cx h.maj h.min 0 0 0 0 0 0 0 0 0 0 0 0 0 0 none pm none pm w (by rw [← hXA]; unfold Hd.tcells; rw [HTY.out]) (by rw [← HYE.out]; rfl) HNZ.out)
  clear hY hXA
  go_upto_region 41 with (first
    | (refine wpList_load_row (o := ⟨some 158, _, _, _, _, _⟩) rfl 75 (.tmp 1) rfl B rfl 75 XA (0, 0) _ HBX.out Tryz.underlying75 rfl HXS.out ?_)
    | (refine wpList_load_row (o := ⟨some 159, _, _, _, _, _⟩) rfl 75 (.tmp 18) rfl wc.heap.size rfl 75 Y (0, 0) _ HB9.out Tryz.underlying75 rfl HYS.out ?_)
    | (go_at_call 100; refine (HHE _).out.mono ?_; rintro e w10 ⟨rfl, hb10⟩; have HS10 := Lib.hid (HS9.out.below hb10); clear hb10))
  obtain ⟨k1, f1⟩ := HS10.out.c1
  obtain ⟨k2, f2⟩ := HS10.out.c2
  clear d0 d1 d17 d18 d19
  go_upto_region 41 with fail
  rename_i kE hE
  go_cut [4] (fun v wx => (∃ x, v = .iface 144 x) ∧ wx.cell? ⟨B + 1, 0, none⟩ = some (.int .i64 0) ∧ wx.cell? ⟨B + 2, 0, none⟩ = some (.map none) ∧ Hid (Below B w wx))
  case first =>
    rename_i jN kN gN1 gN2; repeat (rename_i hh; clear hh); try (rename_i kX1; have := kX1; clear this; repeat (rename_i hh; clear hh)); try (rename_i kX2; have := kX2; clear this; repeat (rename_i hh; clear hh)); try (rename_i kX3; have := kX3; clear this; repeat (rename_i hh; clear hh)); try (rename_i kX4; have := kX4; clear this; repeat (rename_i hh; clear hh)); try (rename_i kX5; have := kX5; clear this; repeat (rename_i hh; clear hh)); try (rename_i kX6; have := kX6; clear this; repeat (rename_i hh; clear hh))
    clear hE
    go_wp2_with (refine wpList_bs1s (o := ⟨some 162, _, _, _, _, _⟩) _ rfl (.const _) rfl _ rfl ?_; intro w8 vE hg8 hvE; have HS8 := Lib.hid (HS10.out.grown hg8 (fun k hk => by cases hk)); obtain ⟨j1, l1⟩ := HS8.out.c1; obtain ⟨j2, l2⟩ := HS8.out.c2; clear hg8 hvE)
    go_meet
    case rel => exact ⟨⟨_, rfl⟩, (HS8.out.errEnd 0 none).1, (HS8.out.errEnd 0 none).2.1, Lib.hid (HS8.out.errEnd 0 none).2.2⟩
  case rest => as_aux_lemma =>
    obtain ⟨⟨x9, rfl⟩, e1, e2, e3⟩ := hcut
    refine hE _ _ ?_
    clear hE
    refine wp_ret ?_
    try simp only [Exit.inBlock, Exit.then]
    refine bodyPost_ret (results_cct rfl _ _ rfl rfl (run_loadVar_c _ _ _ Tryz.underlying73 rfl _ _ e1) (run_loadVar_c _ _ _ Tryz.underlying72 rfl _ _ e2)) rfl ?_
    exact .inl ⟨⟨0, none, _, rfl⟩, HERR.out, by rw [HBB.out]; exact e3.out⟩
end Go.Proofs.YtepeehjajhehfaaGreatDoor
namespace Go.Proofs.YtepeehjajhehfaaGreatDoor
open Go.RowKit Go.PlainAid Go.Maps Go.ChangeMaps Go.MapKept Go.WideMaps
set_option linter.unusedVariables false
set_option linter.unusedSimpArgs false

set_option maxRecDepth 20000 in
set_option maxHeartbeats 32000000 in
theorem tail26 (X : Array Value) (h : Hd) (mx an ax cn cx : Int) (pm : Option Nat) (R : List (ByteArray × ByteArray)) (B : Nat) (w wc : World) (u p g : Bool) (L : List (ByteArray × ByteArray)) (u18 u19 u20 u21 u22 u23 u24 u25 u26 u27 u28 u29 u30 u31 u32 u33 u34 u35 u36 u37 u38 u39 u40 u41 u42 u43 u44 u45 u46 u47 u48 u49 u50 u51 u52 u53 u54 u55 u56 u57 u58 u59 u60 u61 u62 u63 u64 u65 u66 u67 u68 u69 u70 u71 u72 u73 u74 u75 u76 u77 u78 u79 u80 u81 u82 u83 u84 u85 u86 u87 u88 u89 u90 u91 u92 u93 u94 u95 u96 u97 u98 u99 u100 u101 u102 u103 u104 u105 u106 u107 u108 u109 u110 u111 u112 u113 u114 u115 u116 u117 u118 u119 u120 u121 u122 u123 u124 u125 u126 u127 u128 u129 u130 u131 u132 u133 u134 u135 u136 u137 u138 u139 u140 u141 u142 u143 u144 u145 u146 u147 u148 u149 u150 u151 u152 u153 u154 u155 u156 u157 u158 u159 u160 u161 u162 u163 u164 u165 u166 u167 u168 u169 u170 u171 u172 u173 u174 u175 u176 u177 u178 u179 u180 u181 u182 u183 u184 u185 u186 u187 u188 u189 u190 u191 u192 u193 u194 u195 u196 u197 u198 u199 u200 u201 u202 u203 u204 u205 u206 u207 u208 u209 u210 u211 u212 u213 u214 u215 u216 u217 u218 u219 u220 u221 u222 u223 u224 u225 u226 u227 u228 u229 u230 u231 u232 u233 u234 u235 u236 u237 u238 u239 u240 u241 u242 u243 u244 u245 u246 u247 u248 u249 u250 u251 u252 u253 u254 u255 u256 u257 u258 u259 u260 u261 u262 u263 u264 u265 u266 u267 u268 u269 u270 u271 u272 u273 u274 u275 u276 u277 u278 u279 u280 u281 u282 u283 u284 u285 u286 u287 u288 u289 u290 u291 u292 : Value) (hB : w.heap.size = B) (hS : AF B (h.tcells mx an ax cn cx pm) pm R u p g L w wc) (hnz : ¬ (h.mn = 0 ∧ mx = 0)) (hns : h.name.size ≤ 2147483647) (hL : L.length ≤ 26 ∧ ∀ y ∈ L, FR h mx an ax cn cx R y) (hK : ∀ y, FE h mx an ax cn cx y → y.1.size ≤ 4000000000 ∧ y.2.size ≤ 4000000000) (hsz : ∀ x ∈ L, x.1.size ≤ 4000000000 ∧ x.2.size ≤ 4000000000) (hRs : ∀ x ∈ R, x.1.size ≤ 2147483647 ∧ x.2.size ≤ 2147483647) (hRl : R.length ≤ 2147483647) (hRn : ∀ q, pm = some q → R ≠ []) (hBK : BK B w) (hu : u = UF h mx an ax cn cx) (hp : p = PF h) (hg : g = GF h mx an ax cn cx) :
    (restAl 26).wp Tryz.prog (bodyPost Tryz.prog Tryz.f51 (AllP h mx an ax cn cx R w)) ⟨((.agg X :: .pointer (some ⟨B, 0, none⟩) :: .pointer (some ⟨B + 1, 0, none⟩) :: .pointer (some ⟨B + 2, 0, none⟩) :: .nilIface :: .pointer (some ⟨B + 4, 0, none⟩) :: .pointer (some ⟨B + 5, 0, none⟩) :: .pointer (some ⟨B + 6, 0, none⟩) :: .pointer (some ⟨B + 7, 0, none⟩) :: .func (.func 71) #[] #[.pointer (some ⟨B + 6, 0, none⟩), .pointer (some ⟨B + 1, 0, none⟩), .pointer (some ⟨B + 4, 0, none⟩), .pointer (some ⟨B + 5, 0, none⟩), .pointer (some ⟨B + 2, 0, none⟩), .pointer (some ⟨B, 0, none⟩)] :: .func (.func 76) #[] #[.pointer (some ⟨B + 6, 0, none⟩), .pointer (some ⟨B + 1, 0, none⟩), .pointer (some ⟨B + 4, 0, none⟩), .pointer (some ⟨B + 5, 0, none⟩), .pointer (some ⟨B + 2, 0, none⟩), .pointer (some ⟨B, 0, none⟩)] :: .func (.func 80) #[] #[.pointer (some ⟨B + 6, 0, none⟩), .pointer (some ⟨B + 1, 0, none⟩), .pointer (some ⟨B + 4, 0, none⟩), .pointer (some ⟨B + 7, 0, none⟩), .pointer (some ⟨B + 5, 0, none⟩), .pointer (some ⟨B + 2, 0, none⟩), .pointer (some ⟨B, 0, none⟩)] :: .pointer (some ⟨B + 8, 0, none⟩) :: .pointer (some ⟨B + 8, 0, none⟩) :: .pointer (some ⟨B + 8, 0, none⟩) :: .pointer (some ⟨B + 8, 0, none⟩) :: .string ⟨#[]⟩ :: .string ⟨#[]⟩ :: u18 :: u19 :: u20 :: u21 :: u22 :: u23 :: u24 :: u25 :: u26 :: u27 :: u28 :: u29 :: u30 :: u31 :: u32 :: u33 :: u34 :: u35 :: u36 :: u37 :: u38 :: u39 :: u40 :: u41 :: u42 :: u43 :: u44 :: u45 :: u46 :: u47 :: u48 :: u49 :: u50 :: u51 :: u52 :: u53 :: u54 :: u55 :: u56 :: u57 :: u58 :: u59 :: u60 :: u61 :: u62 :: u63 :: u64 :: u65 :: u66 :: u67 :: u68 :: u69 :: u70 :: u71 :: u72 :: u73 :: u74 :: u75 :: u76 :: u77 :: u78 :: u79 :: u80 :: u81 :: u82 :: u83 :: u84 :: u85 :: u86 :: u87 :: u88 :: u89 :: u90 :: u91 :: u92 :: u93 :: u94 :: u95 :: u96 :: u97 :: u98 :: u99 :: u100 :: u101 :: u102 :: u103 :: u104 :: u105 :: u106 :: u107 :: u108 :: u109 :: u110 :: u111 :: u112 :: u113 :: u114 :: u115 :: u116 :: u117 :: u118 :: u119 :: u120 :: u121 :: u122 :: u123 :: u124 :: u125 :: u126 :: u127 :: u128 :: u129 :: u130 :: u131 :: u132 :: u133 :: u134 :: u135 :: u136 :: u137 :: u138 :: u139 :: u140 :: u141 :: u142 :: u143 :: u144 :: u145 :: u146 :: u147 :: u148 :: u149 :: u150 :: u151 :: u152 :: u153 :: u154 :: u155 :: u156 :: u157 :: u158 :: u159 :: u160 :: u161 :: u162 :: u163 :: u164 :: u165 :: u166 :: u167 :: u168 :: u169 :: u170 :: u171 :: u172 :: u173 :: u174 :: u175 :: u176 :: u177 :: u178 :: u179 :: u180 :: u181 :: u182 :: u183 :: u184 :: u185 :: u186 :: u187 :: u188 :: u189 :: u190 :: u191 :: u192 :: u193 :: u194 :: u195 :: u196 :: u197 :: u198 :: u199 :: u200 :: u201 :: u202 :: u203 :: u204 :: u205 :: u206 :: u207 :: u208 :: u209 :: u210 :: u211 :: u212 :: u213 :: u214 :: u215 :: u216 :: u217 :: u218 :: u219 :: u220 :: u221 :: u222 :: u223 :: u224 :: u225 :: u226 :: u227 :: u228 :: u229 :: u230 :: u231 :: u232 :: u233 :: u234 :: u235 :: u236 :: u237 :: u238 :: u239 :: u240 :: u241 :: u242 :: u243 :: u244 :: u245 :: u246 :: u247 :: u248 :: u249 :: u250 :: u251 :: u252 :: u253 :: u254 :: u255 :: u256 :: u257 :: u258 :: u259 :: u260 :: u261 :: u262 :: u263 :: u264 :: u265 :: u266 :: u267 :: u268 :: u269 :: u270 :: u271 :: u272 :: u273 :: u274 :: u275 :: u276 :: u277 :: u278 :: u279 :: u280 :: u281 :: u282 :: u283 :: u284 :: u285 :: u286 :: u287 :: u288 :: u289 :: u290 :: u291 :: u292 :: []) : List Value).toArray, []⟩ wc := by
  conv in (restAl 26) => whnf
  have HS1 := Lib.hid hS
  have HBB := Lib.hid hB
  have HNZ := Lib.hid hnz
  have HNSZ := Lib.hid hns
  have HALL := Lib.hid (And.intro hL (And.intro hK (And.intro hsz (And.intro hRs (And.intro hRl (And.intro hRn (And.intro hBK (And.intro hu (And.intro hp hg)))))))))
  have c0 : wc.cell? ⟨B, 0, none⟩ = some (.int .u8 h.ty) := hS.hd.cell 0
  have c1 : wc.cell? ⟨B, 1, none⟩ = some (.string h.name) := hS.hd.cell 1
  obtain ⟨t, ht⟩ : ∃ t, h.ty = t := ⟨_, rfl⟩
  have HTY := Lib.hid ht
  rw [ht] at c0
  obtain ⟨bs, hbs⟩ : ∃ b, slB h.name = b := ⟨_, rfl⟩
  have HSL := Lib.hid hbs
  have HSU : ∀ w, Hid (Calls Tryz.prog 99 #[.string h.name, .string ⟨#[47]⟩] w fun e w' => e = .returned (.bool bs) ∧ w = w') := fun w => Lib.hid (by have h9 := hasSuf h.name w (by omega); rw [hbs] at h9; exact h9)
  obtain ⟨bA, hbA⟩ : ∃ b, (decide (t = 48) || (decide (t = 51) || decide (t = 52) || decide (t = 54) || decide (t = 83))) = b := ⟨_, rfl⟩
  have HBA := Lib.hid hbA
  obtain ⟨bB, hbB⟩ : ∃ b, (decide (t = 120) || (decide (t = 76) || decide (t = 75))) = b := ⟨_, rfl⟩
  have HBB2 := Lib.hid hbB
  clear hS hB hnz hns hL hK hsz hRs hRl hRn hBK hu hp hg ht hbs hbA hbB
  go_upto_block 0 with fail
  rename_i kT1 hT1
  go_cut [4, 16] (fun e a wx => e = .nilIface ∧ (∃ x : ByteArray, a = .string x ∧ x.size ≤ 100) ∧ Hid (AF B (h.tcells mx an ax cn cx pm) pm R u p g L w wx) ∧ Hid (¬ TyErr h))
  case first => as_aux_lemma =>
    rename_i jN kN gN1 gN2; repeat (rename_i hh; clear hh); try (rename_i kX1; have := kX1; clear this; repeat (rename_i hh; clear hh)); try (rename_i kX2; have := kX2; clear this; repeat (rename_i hh; clear hh)); try (rename_i kX3; have := kX3; clear this; repeat (rename_i hh; clear hh)); try (rename_i kX4; have := kX4; clear this; repeat (rename_i hh; clear hh)); try (rename_i kX5; have := kX5; clear this; repeat (rename_i hh; clear hh)); try (rename_i kX6; have := kX6; clear this; repeat (rename_i hh; clear hh))
    clear hT1
    go_upto_region 27 with fail
    rename_i kA hA kB hB
    go_cut [128] (fun v wx => v = .bool (t == 48) ∧ Hid (wc = wx))
    case first => as_aux_lemma =>
      rename_i jN kN gN1 gN2; repeat (rename_i hh; clear hh); try (rename_i kX1; have := kX1; clear this; repeat (rename_i hh; clear hh)); try (rename_i kX2; have := kX2; clear this; repeat (rename_i hh; clear hh)); try (rename_i kX3; have := kX3; clear this; repeat (rename_i hh; clear hh)); try (rename_i kX4; have := kX4; clear this; repeat (rename_i hh; clear hh)); try (rename_i kX5; have := kX5; clear this; repeat (rename_i hh; clear hh)); try (rename_i kX6; have := kX6; clear this; repeat (rename_i hh; clear hh))
      clear hB hA
      go_wp2_with fail
      go_meet
      case rel => exact ⟨rfl, Lib.hid rfl⟩
    case rest => as_aux_lemma =>
      obtain ⟨rfl, hw⟩ := hcut
      obtain rfl := hw.out
      clear hw
      repeat (rename_i hh; clear hh); try (rename_i kX1; have := kX1; clear this; repeat (rename_i hh; clear hh)); try (rename_i kX2; have := kX2; clear this; repeat (rename_i hh; clear hh)); try (rename_i kX3; have := kX3; clear this; repeat (rename_i hh; clear hh)); try (rename_i kX4; have := kX4; clear this; repeat (rename_i hh; clear hh)); try (rename_i kX5; have := kX5; clear this; repeat (rename_i hh; clear hh)); try (rename_i kX6; have := kX6; clear this; repeat (rename_i hh; clear hh))
      go_upto_if 128 with fail
      go_cut [128] (fun v wx => v = .bool bA ∧ Hid (wc = wx))
      case first => as_aux_lemma =>
        rename_i jN kN gN1 gN2; repeat (rename_i hh; clear hh); try (rename_i kX1; have := kX1; clear this; repeat (rename_i hh; clear hh)); try (rename_i kX2; have := kX2; clear this; repeat (rename_i hh; clear hh)); try (rename_i kX3; have := kX3; clear this; repeat (rename_i hh; clear hh)); try (rename_i kX4; have := kX4; clear this; repeat (rename_i hh; clear hh)); try (rename_i kX5; have := kX5; clear this; repeat (rename_i hh; clear hh)); try (rename_i kX6; have := kX6; clear this; repeat (rename_i hh; clear hh))
        clear hA
        by_cases t48 : t = 48
        · subst t48
          go_wp2_with fail
          go_meet
          case rel => exact ⟨by rw [← HBA.out]; rfl, Lib.hid rfl⟩
        · have q48 : (t == 48) = false := by rw [beq_eq_false_iff_ne]; exact t48
          have Q48 := Lib.hid t48
          clear t48
          rw [q48]
          by_cases hA : t = 51 ∨ t = 52 ∨ t = 54 ∨ t = 83
          · rcases hA with rfl | rfl | rfl | rfl
            all_goals
              go_wp2_with fail
              go_meet
              case rel => exact ⟨by rw [← HBA.out]; rfl, Lib.hid rfl⟩
          · have HNA := Lib.hid hA
            have q51 : (t == 51) = false := by rw [beq_eq_false_iff_ne]; omega
            have q52 : (t == 52) = false := by rw [beq_eq_false_iff_ne]; omega
            have q54 : (t == 54) = false := by rw [beq_eq_false_iff_ne]; omega
            have q83 : (t == 83) = false := by rw [beq_eq_false_iff_ne]; omega
            clear hA
            go_wp2_with fail
            go_meet
            case rel => exact ⟨by rw [← HBA.out]; have h8 := Q48.out; have h9 := HNA.out; rw [decide_eq_false h8, decide_eq_false (by omega : ¬ t = 51), decide_eq_false (by omega : ¬ t = 52), decide_eq_false (by omega : ¬ t = 54), decide_eq_false (by omega : ¬ t = 83)]; rfl, Lib.hid rfl⟩
      case rest => as_aux_lemma =>
        obtain ⟨rfl, hw⟩ := hcut
        obtain rfl := hw.out
        clear hw
        repeat (rename_i hh; clear hh); try (rename_i kX1; have := kX1; clear this; repeat (rename_i hh; clear hh)); try (rename_i kX2; have := kX2; clear this; repeat (rename_i hh; clear hh)); try (rename_i kX3; have := kX3; clear this; repeat (rename_i hh; clear hh)); try (rename_i kX4; have := kX4; clear this; repeat (rename_i hh; clear hh)); try (rename_i kX5; have := kX5; clear this; repeat (rename_i hh; clear hh)); try (rename_i kX6; have := kX6; clear this; repeat (rename_i hh; clear hh))
        cases bA with
        | true =>
          have HTA : Hid (h.ty = 48 ∨ h.ty = 51 ∨ h.ty = 52 ∨ h.ty = 54 ∨ h.ty = 83) := Lib.hid (by rw [HTY.out]; have h9 := HBA.out; simp only [Bool.or_eq_true, decide_eq_true_eq] at h9; omega)
          go_upto_if 136 with (go_at_call 99; refine (HSU _).out.mono ?_; rintro e w' ⟨rfl, rfl⟩)
          cases bs with
          | true =>
            have HERR : Hid (AllNo h mx an ax cn cx R) := Lib.hid (.inl (.inl ⟨HTA.out, HSL.out⟩))
            obtain ⟨k1, f1⟩ := HS1.out.c1
            obtain ⟨k2, f2⟩ := HS1.out.c2
            go_upto_region 33 with fail
            rename_i kE hE
            go_cut [4] (fun v wx => (∃ x, v = .iface 144 x) ∧ wx.cell? ⟨B + 1, 0, none⟩ = some (.int .i64 0) ∧ wx.cell? ⟨B + 2, 0, none⟩ = some (.map none) ∧ Hid (Below B w wx))
            case first =>
              rename_i jN kN gN1 gN2; repeat (rename_i hh; clear hh); try (rename_i kX1; have := kX1; clear this; repeat (rename_i hh; clear hh)); try (rename_i kX2; have := kX2; clear this; repeat (rename_i hh; clear hh)); try (rename_i kX3; have := kX3; clear this; repeat (rename_i hh; clear hh)); try (rename_i kX4; have := kX4; clear this; repeat (rename_i hh; clear hh)); try (rename_i kX5; have := kX5; clear this; repeat (rename_i hh; clear hh)); try (rename_i kX6; have := kX6; clear this; repeat (rename_i hh; clear hh))
              clear hE
              go_wp2_with (refine wpList_bs1s (o := ⟨some 137, _, _, _, _, _⟩) _ rfl (.const _) rfl _ rfl ?_; intro w8 vE hg8 hvE; have HS8 := Lib.hid (HS1.out.grown hg8 (fun k hk => by cases hk)); obtain ⟨j1, l1⟩ := HS8.out.c1; obtain ⟨j2, l2⟩ := HS8.out.c2; clear hg8 hvE)
              go_meet
              case rel => exact ⟨⟨_, rfl⟩, (HS8.out.errEnd 0 none).1, (HS8.out.errEnd 0 none).2.1, Lib.hid (HS8.out.errEnd 0 none).2.2⟩
            case rest => as_aux_lemma =>
              obtain ⟨⟨x9, rfl⟩, e1, e2, e3⟩ := hcut
              refine hE _ _ ?_
              clear hE
              refine wp_ret ?_
              try simp only [Exit.inBlock, Exit.then]
              refine bodyPost_ret (results_cct rfl _ _ rfl rfl (run_loadVar_c _ _ _ Tryz.underlying73 rfl _ _ e1) (run_loadVar_c _ _ _ Tryz.underlying72 rfl _ _ e2)) rfl ?_
              exact .inl ⟨⟨0, none, _, rfl⟩, HERR.out, by rw [HBB.out]; exact e3.out⟩
          | false =>
            have HNE : Hid (¬ TyErr h) := Lib.hid (by unfold TyErr; rw [HSL.out]; have h9 := HTA.out; rintro (⟨_, h8⟩ | h8); (· cases h8); (· omega))
            go_wp2_with fail
            go_meet
            case rel => exact ⟨rfl, ⟨_, rfl, by decide⟩, HS1, HNE⟩
        | false =>
          have HNA : Hid (¬ (t = 48 ∨ t = 51 ∨ t = 52 ∨ t = 54 ∨ t = 83)) := Lib.hid (by have h9 := HBA.out; simp only [Bool.or_eq_false_iff, decide_eq_false_iff_not] at h9; omega)
          go_upto_if 139 with fail
          rename_i kC hC
          go_cut [139] (fun v wx => v = .bool bB ∧ Hid (wc = wx))
          case first => as_aux_lemma =>
            rename_i jN kN gN1 gN2; repeat (rename_i hh; clear hh); try (rename_i kX1; have := kX1; clear this; repeat (rename_i hh; clear hh)); try (rename_i kX2; have := kX2; clear this; repeat (rename_i hh; clear hh)); try (rename_i kX3; have := kX3; clear this; repeat (rename_i hh; clear hh)); try (rename_i kX4; have := kX4; clear this; repeat (rename_i hh; clear hh)); try (rename_i kX5; have := kX5; clear this; repeat (rename_i hh; clear hh)); try (rename_i kX6; have := kX6; clear this; repeat (rename_i hh; clear hh))
            clear hC
            by_cases t120 : t = 120
            · subst t120
              go_wp2_with fail
              go_meet
              case rel => exact ⟨by rw [← HBB2.out]; rfl, Lib.hid rfl⟩
            · have q120 : (t == 120) = false := by rw [beq_eq_false_iff_ne]; exact t120
              have Q120 := Lib.hid t120
              clear t120
              try rw [q120]
              by_cases hA : t = 76 ∨ t = 75
              · rcases hA with rfl | rfl
                all_goals
                  go_wp2_with fail
                  go_meet
                  case rel => exact ⟨by rw [← HBB2.out]; rfl, Lib.hid rfl⟩
              · have HNB := Lib.hid hA
                have q76 : (t == 76) = false := by rw [beq_eq_false_iff_ne]; omega
                have q75 : (t == 75) = false := by rw [beq_eq_false_iff_ne]; omega
                clear hA
                go_wp2_with fail
                go_meet
                case rel => exact ⟨by rw [← HBB2.out]; have h8 := Q120.out; have h9 := HNB.out; rw [decide_eq_false h8, decide_eq_false (by omega : ¬ t = 76), decide_eq_false (by omega : ¬ t = 75)]; rfl, Lib.hid rfl⟩
          case rest => as_aux_lemma =>
            obtain ⟨rfl, hw⟩ := hcut
            obtain rfl := hw.out
            clear hw
            repeat (rename_i hh; clear hh); try (rename_i kX1; have := kX1; clear this; repeat (rename_i hh; clear hh)); try (rename_i kX2; have := kX2; clear this; repeat (rename_i hh; clear hh)); try (rename_i kX3; have := kX3; clear this; repeat (rename_i hh; clear hh)); try (rename_i kX4; have := kX4; clear this; repeat (rename_i hh; clear hh)); try (rename_i kX5; have := kX5; clear this; repeat (rename_i hh; clear hh)); try (rename_i kX6; have := kX6; clear this; repeat (rename_i hh; clear hh))
            cases bB with
            | true =>
              have HERR : Hid (AllNo h mx an ax cn cx R) := Lib.hid (.inl (by have h9 := HBB2.out; simp only [Bool.or_eq_true, decide_eq_true_eq] at h9; unfold TyErr; rw [HTY.out]; omega))
              obtain ⟨k1, f1⟩ := HS1.out.c1
              obtain ⟨k2, f2⟩ := HS1.out.c2
              go_upto_region 37 with fail
              rename_i kE hE
              go_cut [4] (fun v wx => (∃ x, v = .iface 144 x) ∧ wx.cell? ⟨B + 1, 0, none⟩ = some (.int .i64 0) ∧ wx.cell? ⟨B + 2, 0, none⟩ = some (.map none) ∧ Hid (Below B w wx))
              case first =>
                rename_i jN kN gN1 gN2; repeat (rename_i hh; clear hh); try (rename_i kX1; have := kX1; clear this; repeat (rename_i hh; clear hh)); try (rename_i kX2; have := kX2; clear this; repeat (rename_i hh; clear hh)); try (rename_i kX3; have := kX3; clear this; repeat (rename_i hh; clear hh)); try (rename_i kX4; have := kX4; clear this; repeat (rename_i hh; clear hh)); try (rename_i kX5; have := kX5; clear this; repeat (rename_i hh; clear hh)); try (rename_i kX6; have := kX6; clear this; repeat (rename_i hh; clear hh))
                clear hE
                go_wp2_with (refine wpList_bs1s (o := ⟨some 143, _, _, _, _, _⟩) _ rfl (.const _) rfl _ rfl ?_; intro w8 vE hg8 hvE; have HS8 := Lib.hid (HS1.out.grown hg8 (fun k hk => by cases hk)); obtain ⟨j1, l1⟩ := HS8.out.c1; obtain ⟨j2, l2⟩ := HS8.out.c2; clear hg8 hvE)
                go_meet
                case rel => exact ⟨⟨_, rfl⟩, (HS8.out.errEnd 0 none).1, (HS8.out.errEnd 0 none).2.1, Lib.hid (HS8.out.errEnd 0 none).2.2⟩
              case rest => as_aux_lemma =>
                obtain ⟨⟨x9, rfl⟩, e1, e2, e3⟩ := hcut
                refine hE _ _ ?_
                clear hE
                refine wp_ret ?_
                try simp only [Exit.inBlock, Exit.then]
                refine bodyPost_ret (results_cct rfl _ _ rfl rfl (run_loadVar_c _ _ _ Tryz.underlying73 rfl _ _ e1) (run_loadVar_c _ _ _ Tryz.underlying72 rfl _ _ e2)) rfl ?_
                exact .inl ⟨⟨0, none, _, rfl⟩, HERR.out, by rw [HBB.out]; exact e3.out⟩
            | false =>
              have HNB : Hid (¬ (t = 120 ∨ t = 76 ∨ t = 75)) := Lib.hid (by have h9 := HBB2.out; simp only [Bool.or_eq_false_iff, decide_eq_false_iff_not] at h9; omega)
              by_cases t103 : t = 103
              · subst t103
                go_upto_if 145 with fail
                exact gPath X h mx an ax cn cx pm R B w _ u p g L _ _ _ _ _ _ _ _ _ _ _ _ _ _ _ _ _ _ _ _ _ _ _ _ _ _ _ _ _ _ _ _ _ _ _ _ _ _ _ _ _ _ _ _ _ _ _ _ _ _ _ _ _ _ _ _ _ _ _ _ _ _ _ _ _ _ _ _ _ _ _ _ _ _ _ _ _ _ _ _ _ _ _ _ _ _ _ _ _ _ _ _ _ _ _ _ _ _ _ _ _ _ _ _ _ _ _ _ _ _ _ _ _ _ _ _ _ _ _ _ _ _ _ _ _ _ _ _ _ _ _ _ _ _ _ _ _ _ _ _ _ _ _ _ _ _ _ _ _ _ _ _ _ _ _ _ _ _ _ _ _ _ _ _ _ _ _ _ _ _ _ _ _ _ _ _ _ _ _ _ _ _ _ _ _ _ _ _ _ _ _ _ _ _ _ _ _ _ _ _ _ _ _ _ _ _ _ _ _ _ _ _ _ _ _ _ _ _ _ _ _ _ _ _ _ _ _ _ _ _ _ _ _ _ _ _ _ _ _ _ _ _ _ _ _ _ _ _ _ _ _ _ _ _ _ _ _ _ _ _ _ _ _ _ _ _ _ _ _ _ _ _ _ _ _ HBB.out HS1.out HTY.out HNZ.out
              · have q103 : (t == 103) = false := by rw [beq_eq_false_iff_ne]; exact t103
                have HNE : Hid (¬ TyErr h) := Lib.hid (by unfold TyErr; rw [HTY.out]; have h8 := HNA.out; have h9 := HNB.out; omega)
                clear t103
                go_wp2_with fail
                go_meet
                case rel => exact ⟨rfl, ⟨_, rfl, by decide⟩, HS1, HNE⟩
  case rest => as_aux_lemma =>
    obtain ⟨rfl, ⟨x16, rfl, hx16⟩, HS2, HNT⟩ := hcut
    obtain ⟨h3, h4, h5, h6, h7, h8, h9, h10, h11, h12⟩ := HALL.out
    exact hT1 _ _ (tail44 X h mx an ax cn cx pm R B w _ x16 u p g L _ _ _ _ _ _ _ _ _ _ _ _ _ _ _ _ _ _ _ _ _ _ _ _ _ _ _ _ _ _ _ _ _ _ _ _ _ _ _ _ _ _ _ _ _ _ _ _ _ _ _ _ _ _ _ _ _ _ _ _ _ _ _ _ _ _ _ _ _ _ _ _ _ _ _ _ _ _ _ _ _ _ _ _ _ _ _ _ _ _ _ _ _ _ _ _ _ _ _ _ _ _ _ _ _ _ _ _ _ _ _ _ _ _ _ _ _ _ _ _ _ _ _ _ _ _ _ _ _ _ _ _ _ _ _ _ _ _ _ _ _ _ _ _ _ _ _ _ _ _ _ _ _ _ _ _ _ _ _ _ _ _ _ _ _ _ _ _ _ _ _ _ _ _ _ _ _ _ _ _ _ _ _ _ _ _ _ _ _ _ _ _ _ _ _ _ _ _ _ _ _ _ _ _ _ _ _ _ _ _ _ _ _ _ _ _ _ _ _ _ _ _ _ _ _ _ _ _ _ _ _ _ _ _ _ _ _ _ _ _ _ _ _ _ _ _ _ _ _ _ _ _ _ _ _ _ _ _ _ _ _ _ _ _ _ _ _ _ _ _ _ _ _ _ _ HBB.out HNT.out HS2.out h3 h4 h5 h6 h7 h8 h9 h10 h11 h12)
end Go.Proofs.YtepeehjajhehfaaGreatDoor
