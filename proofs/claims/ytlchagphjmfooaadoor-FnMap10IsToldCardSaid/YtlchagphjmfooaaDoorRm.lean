/- readGNUSparseMap1x0: plain words on its tokens; the first token. -/
import Derived.Test.YtlchagphjmfooaaDoorFeed
import Derived.Test.YtlchagphjmfooaaDoorM10
namespace Go.Proofs.YtlchagphjmfooaaDoor
open Go Go.RowKit Go.PlainAid
set_option linter.unusedVariables false

theorem nl_mono (D : List UInt8) {a b : Nat} (h : a ≤ b) : nl (D.take a) ≤ nl (D.take b) := by
  obtain ⟨d, rfl⟩ : ∃ d, b = a + d := ⟨b - a, by omega⟩
  rw [List.take_add, nl_append]
  omega
theorem nl_none {T : List UInt8} (h : ∀ x ∈ T, x ≠ 10) : nl T = 0 := by
  unfold nl
  rw [List.count_eq_zero]
  exact fun hm => h 10 hm rfl
theorem nl_tok {T E : List UInt8} (h : ∀ x ∈ T, x ≠ 10) : nl (T ++ 10 :: E) = nl E + 1 := by
  rw [nl_append, nl_none h]
  unfold nl
  rw [List.count_cons]
  simp
theorem nl_ln : ∀ (L : List (List UInt8)), (∀ l ∈ L, ∀ x ∈ l, x ≠ 10) → nl (ln L) = L.length
  | [], _ => rfl
  | a :: r, h => by
    show nl (a ++ 10 :: ln r) = _
    rw [nl_tok (h a (by simp)), nl_ln r (fun l hl => h l (by simp [hl]))]
    rfl
/-- A text with a newline: its first token. -/
theorem split_tok : ∀ (U : List UInt8), 1 ≤ nl U → ∃ T E, U = T ++ 10 :: E ∧ (∀ x ∈ T, x ≠ 10)
  | [], h => by simp [nl] at h
  | c :: r, h => by
    by_cases hc : c = 10
    · subst hc
      exact ⟨[], r, rfl, fun x hx => by cases hx⟩
    · have h1 : nl (c :: r) = nl r := by unfold nl; rw [List.count_cons]; simp [hc]
      obtain ⟨T, E, e, hT⟩ := split_tok r (by omega)
      exact ⟨c :: T, E, by rw [e]; rfl, fun x hx => by
        rcases List.mem_cons.1 hx with h | h
        · rw [h]; exact hc
        · exact hT x h⟩
theorem split_toks : ∀ (m : Nat) (U : List UInt8), m ≤ nl U → ∃ L E, U = ln L ++ E ∧ L.length = m ∧ (∀ l ∈ L, ∀ x ∈ l, x ≠ 10)
  | 0, U, _ => ⟨[], U, rfl, rfl, fun l h => by cases h⟩
  | m + 1, U, h => by
    obtain ⟨T, E, e, hT⟩ := split_tok U (by omega)
    rw [e, nl_tok hT] at h
    obtain ⟨L, E2, e2, h1, h2⟩ := split_toks m E (by omega)
    exact ⟨T :: L, E2, by rw [e, e2]; simp [ln], by simp [h1], fun l hl => by
      rcases List.mem_cons.1 hl with h | h
      · rw [h]; exact hT
      · exact h2 l h⟩
/-- One text, two ways in tokens: the tokens are the same. -/
theorem tok_same : ∀ (T T' E E' : List UInt8), (∀ x ∈ T, x ≠ 10) → (∀ x ∈ T', x ≠ 10) → T ++ 10 :: E = T' ++ 10 :: E' → T = T' ∧ E = E'
  | [], [], E, E', _, _, h => ⟨rfl, by simpa using h⟩
  | [], c :: r, E, E', _, h2, h => by
    simp at h
    exact absurd h.1.symm (h2 c (by simp))
  | c :: r, [], E, E', h1, _, h => by
    simp at h
    exact absurd h.1 (h1 c (by simp))
  | c :: r, c' :: r', E, E', h1, h2, h => by
    simp at h
    obtain ⟨e1, e2⟩ := tok_same r r' E E' (fun x hx => h1 x (by simp [hx])) (fun x hx => h2 x (by simp [hx])) h.2
    exact ⟨by rw [h.1, e1], e2⟩
theorem toks_same : ∀ (L L' : List (List UInt8)) (E E' : List UInt8), (∀ l ∈ L, ∀ x ∈ l, x ≠ 10) → (∀ l ∈ L', ∀ x ∈ l, x ≠ 10) → L.length = L'.length → ln L ++ E = ln L' ++ E' → L = L' ∧ E = E'
  | [], [], E, E', _, _, _, h => ⟨rfl, h⟩
  | a :: r, a' :: r', E, E', h1, h2, hl, h => by
    have h' : a ++ 10 :: (ln r ++ E) = a' ++ 10 :: (ln r' ++ E') := by simpa [ln] using h
    obtain ⟨e1, e2⟩ := tok_same a a' _ _ (h1 a (by simp)) (h2 a' (by simp)) h'
    obtain ⟨e3, e4⟩ := toks_same r r' E E' (fun l hl => h1 l (by simp [hl])) (fun l hl => h2 l (by simp [hl])) (by simpa using hl) e2
    exact ⟨by rw [e1, e3], e4⟩
/-- What a token tells. -/
def pv (T : List UInt8) : Int := match Lib.parseIntB 64 T with
  | .ok v => v
  | _ => 0
def okT (T : List UInt8) : Prop := ∃ v, Lib.parseIntB 64 T = .ok v
theorem okT.val {T : List UInt8} (h : okT T) : Lib.parseIntB 64 T = .ok (pv T) := by
  obtain ⟨v, hv⟩ := h
  unfold pv
  rw [hv]
theorem not_okT {T : List UInt8} (h : ¬ okT T) : ∀ v, Lib.parseIntB 64 T ≠ .ok v := fun v hv => h ⟨v, hv⟩
/-- The tokens, two by two. -/
def prs : List (List UInt8) → List (Int × Int)
  | a :: b :: r => (pv a, pv b) :: prs r
  | _ => []
theorem prs_len : ∀ (n : Nat) (L : List (List UInt8)), L.length = 2 * n → (prs L).length = n
  | 0, L, h => by
    have : L = [] := List.eq_nil_of_length_eq_zero (by omega)
    rw [this]; rfl
  | n + 1, [], h => by simp at h
  | n + 1, [a], h => by simp at h; omega
  | n + 1, a :: b :: r, h => by
    show (prs r).length + 1 = n + 1
    rw [prs_len n r (by simp at h; omega)]
theorem prs_take : ∀ (k : Nat) (L : List (List UInt8)), 2 * k + 1 < L.length → (prs L).take (k + 1) = (prs L).take k ++ [(pv (L.getD (2 * k) []), pv (L.getD (2 * k + 1) []))]
  | k, [], h => by simp at h
  | k, [a], h => by simp at h
  | 0, a :: b :: r, _ => by
    show ((pv a, pv b) :: prs r).take 1 = _
    simp
  | k + 1, a :: b :: r, h => by
    have h1 := prs_take k r (by simp at h; omega)
    show (pv a, pv b) :: (prs r).take (k + 1) = ((pv a, pv b) :: (prs r).take k) ++ _
    rw [h1, show 2 * (k + 1) = 2 * k + 1 + 1 by omega]
    rfl
theorem drop_two (L : List (List UInt8)) (k : Nat) (h : 2 * k + 1 < L.length) : L.drop (2 * k) = L.getD (2 * k) [] :: L.getD (2 * k + 1) [] :: L.drop (2 * (k + 1)) := by
  rw [List.drop_eq_getElem_cons (by omega), List.drop_eq_getElem_cons (i := 2 * k + 1) h]
  have e1 : L.getD (2 * k) [] = L[2 * k] := by rw [List.getD_eq_getElem?_getD, List.getElem?_eq_getElem (by omega)]; rfl
  have e2 : L.getD (2 * k + 1) [] = L[2 * k + 1] := by rw [List.getD_eq_getElem?_getD, List.getElem?_eq_getElem h]; rfl
  rw [e1, e2]
  rfl
theorem getD_mem (L : List (List UInt8)) (i : Nat) (h : i < L.length) : L.getD i [] ∈ L := by
  rw [List.getD_eq_getElem?_getD, List.getElem?_eq_getElem h]
  exact List.getElem_mem h
theorem zerosBlk : Tryd.zeroCells155 = (bys (zbs 512)).toArray := by kernel_rfl
/-- The world behind the variables of readGNUSparseMap1x0. -/
def vars0 (Z : Array Value) (Br : Nat) (w : World) : World := ((((w.alloc (.cells #[.iface 126 (.pointer (some ⟨Br, 0, none⟩))] 149)).alloc (.cells #[.int .i64 0] 2)).alloc (.cells #[.slice none 0 0, .int .i64 0, .int .i8 0] 153)).alloc (.cells Z 155)).alloc (.cells #[.int .i64 0] 3)
theorem vars0_feed {Br : Nat} {D : List UInt8} {w : World} (hb : BrAt Br D w) : FeedS Br w.heap.size 0 0 0 D [] 0 (vars0 Tryd.zeroCells155 Br w) (vars0 Tryd.zeroCells155 Br w) := by
  have e : w.heap.size + 5 = (vars0 Tryd.zeroCells155 Br w).heap.size := by unfold vars0; simp
  refine ⟨?_, ?_, ?_, .inl ⟨rfl, 0, ?_⟩, ⟨zbs 512, length_zbs _, ?_⟩, ?_, FarT.refl _ _ _, by omega⟩
  · refine hb.below (B := w.heap.size) ?_ hb.lt
    unfold vars0
    exact (((((Below.refl _ w).alloc (Nat.le_refl _) _).alloc (by simp) _).alloc (by simp; omega) _).alloc (by simp; omega) _).alloc (by simp; omega) _
  · unfold vars0
    exact ((((Blk.new w _ [.iface 126 (.pointer (some ⟨Br, 0, none⟩))]).alloc _).alloc _).alloc _).alloc _
  · unfold vars0
    have h := Blk.new (w.alloc (.cells #[.iface 126 (.pointer (some ⟨Br, 0, none⟩))] 149)) 2 [.int .i64 0]
    rw [show (w.alloc (.cells #[.iface 126 (.pointer (some ⟨Br, 0, none⟩))] 149)).heap.size = w.heap.size + 1 by simp] at h
    exact ((h.alloc _).alloc _).alloc _
  · unfold vars0
    have h := Blk.new ((w.alloc (.cells #[.iface 126 (.pointer (some ⟨Br, 0, none⟩))] 149)).alloc (.cells #[.int .i64 0] 2)) 153 [.slice none 0 0, .int .i64 0, .int .i8 0]
    rw [show ((w.alloc (.cells #[.iface 126 (.pointer (some ⟨Br, 0, none⟩))] 149)).alloc (.cells #[.int .i64 0] 2)).heap.size = w.heap.size + 2 by simp] at h
    exact (h.alloc _).alloc _
  · unfold vars0
    have h := Blk.new (((w.alloc (.cells #[.iface 126 (.pointer (some ⟨Br, 0, none⟩))] 149)).alloc (.cells #[.int .i64 0] 2)).alloc (.cells #[.slice none 0 0, .int .i64 0, .int .i8 0] 153)) 155 (bys (zbs 512))
    rw [show (((w.alloc (.cells #[.iface 126 (.pointer (some ⟨Br, 0, none⟩))] 149)).alloc (.cells #[.int .i64 0] 2)).alloc (.cells #[.slice none 0 0, .int .i64 0, .int .i8 0] 153)).heap.size = w.heap.size + 3 by simp] at h
    rw [zerosBlk]
    exact h.alloc _
  · unfold vars0
    have h := Blk.new ((((w.alloc (.cells #[.iface 126 (.pointer (some ⟨Br, 0, none⟩))] 149)).alloc (.cells #[.int .i64 0] 2)).alloc (.cells #[.slice none 0 0, .int .i64 0, .int .i8 0] 153)).alloc (.cells Tryd.zeroCells155 155)) 3 [.int .i64 0]
    rw [show ((((w.alloc (.cells #[.iface 126 (.pointer (some ⟨Br, 0, none⟩))] 149)).alloc (.cells #[.int .i64 0] 2)).alloc (.cells #[.slice none 0 0, .int .i64 0, .int .i8 0] 153)).alloc (.cells Tryd.zeroCells155 155)).heap.size = w.heap.size + 4 by simp] at h
    exact h
theorem vars0_below (Z : Array Value) (Br : Nat) (w : World) : Below w.heap.size w (vars0 Z Br w) := by
  unfold vars0
  exact (((((Below.refl _ w).alloc (Nat.le_refl _) _).alloc (by simp) _).alloc (by simp; omega) _).alloc (by simp; omega) _).alloc (by simp; omega) _
/-- What the variables hold between the calls: U is unread in the buffer, D in the reader, q newlines are counted. -/
structure RmS (Br rb tp q t G : Nat) (D U : List UInt8) (w0 w : World) : Prop where
  br : BrAt Br D w
  box : Blk w rb 149 [.iface 126 (.pointer (some ⟨Br, 0, none⟩))]
  cnt : Blk w (rb + 1) 2 [.int .i64 (q : Int)]
  buf : ∃ g off l cap lr cur, BufAt (rb + 2) g off l cap lr cur U w ∧ l ≤ G ∧ rb + 5 ≤ g ∧ g < tp
  blk : ∃ cur : List UInt8, cur.length = 512 ∧ Blk w (rb + 3) 155 (bys cur)
  tot : Blk w (rb + 4) 3 [.int .i64 (t : Int)]
  far : FarT (rb + 5) [Br, rb + 1, rb + 2, rb + 3, rb + 4] w0 w
  top : rb + 5 ≤ tp
  tps : tp ≤ w.heap.size
theorem FeedS.rm {Br rb k t G j q : Nat} {D U U' D' : List UInt8} {w0 w : World} (h : FeedS Br rb k t G D U j w0 w) (hq : k + nl (D.take (512 * j)) = q) (hU : U ++ D.take (512 * j) = U') (hD : D.drop (512 * j) = D') (h1 : 1 ≤ U'.length) :
    RmS Br rb w.heap.size q (t + 512 * j) (G + 512 * j) D' U' w0 w := by
  have hb := h.buf
  rw [hU] at hb
  refine ⟨by rw [← hD]; exact h.br, h.box, by rw [← hq]; exact h.cnt, ?_, h.blk, h.tot, h.far, h.top, Nat.le_refl _⟩
  rcases hb with ⟨e, _⟩ | ⟨_, g, off, l, cap, lr, cur, h1, h2, h3⟩
  · rw [e] at h1; simp at h1
  · exact ⟨g, off, l, cap, lr, cur, h1, h2, h3, Lib.lt_of_heap h1.row⟩
theorem RmS.feed0 {Br rb tp q t G : Nat} {D U : List UInt8} {w0 w : World} (h : RmS Br rb tp q t G D U w0 w) (hU : 1 ≤ U.length) : FeedS Br rb q t G D U 0 w w := by
  obtain ⟨g, off, l, cap, lr, cur, h1, h2, h3, h4⟩ := h.buf
  refine ⟨by simpa using h.br, h.box, by simpa [nl] using h.cnt, .inr ⟨by simpa using hU, g, off, l, cap, lr, cur, by simpa using h1, by omega, h3⟩, h.blk, by simpa using h.tot, FarT.refl _ _ _, Nat.le_trans h.top h.tps⟩
theorem RmS.below {Br rb tp q t G : Nat} {D U : List UInt8} {w0 w w' : World} (h : RmS Br rb tp q t G D U w0 w) (hBr : Br < rb) (hb : Below tp w w') : RmS Br rb tp q t G D U w0 w' := by
  obtain ⟨g, off, l, cap, lr, cur, h1, h2, h3, h4⟩ := h.buf
  obtain ⟨c, hc1, hc2⟩ := h.blk
  have := h.top
  exact ⟨h.br.below hb (by omega), h.box.below hb (by omega), h.cnt.below hb (by omega), ⟨g, off, l, cap, lr, cur, ⟨h1.blk.below hb (by omega), (hb.block g h4).trans h1.row, h1.size, h1.len, h1.le, h1.big, h1.at_, h1.ne⟩, h2, h3, h4⟩, ⟨c, hc1, hc2.below hb (by omega)⟩, h.tot.below hb (by omega),
    h.far.trans ⟨hb.os, hb.tape, hb.output, hb.size, fun k hk _ => hb.block k (by omega)⟩, h.top, Nat.le_trans h.tps hb.size⟩
/-- nextToken at these variables. -/
theorem rmTok {Br rb tp q t G : Nat} {D T E : List UInt8} {w0 w : World} (h : RmS Br rb tp q t G D (T ++ 10 :: E) w0 w) (hBr : Br < rb) (hT : ∀ x ∈ T, x ≠ 10) (hq : 1 ≤ q) (hq2 : q ≤ 10000000) (hG : G ≤ 10000000) :
    Calls Tryd.prog 88 #[.pointer (some ⟨rb + 1, 0, none⟩), .pointer (some ⟨rb + 2, 0, none⟩)] w fun e w' => e = .returned (.string (mkS T)) ∧ T.length ≤ G ∧ RmS Br rb tp (q - 1) t G D E w0 w' ∧ Far [rb + 1, rb + 2] w w' := by
  obtain ⟨g, off, l, cap, lr, cur, h1, h2, h3, h4⟩ := h.buf
  obtain ⟨c, hc1, hc2⟩ := h.blk
  have htp := Nat.le_trans h.top h.tps
  refine (nextTok (rb + 1) (rb + 2) g off l cap q lr cur T E w h1 hT (by omega) h.cnt hq (by omega) (by omega) (by omega)).mono ?_
  rintro e w' ⟨rfl, hb, hc, hf⟩
  have hbel : Below (Br + 1) w w' := hf.below (fun k hk => by simp at hk; omega) (by omega)
  refine ⟨rfl, ?_, ⟨h.br.below hbel (Nat.lt_succ_self _), h.box.of_far hf (by simp), hc, ⟨g, _, l, cap, _, cur, hb, h2, h3, h4⟩, ⟨c, hc1, hc2.of_far hf (by simp)⟩, h.tot.of_far hf (by simp), h.far.trans (FarT.of_far hf htp (fun k hk _ => by simp at hk ⊢; omega)), h.top, Nat.le_trans h.tps hf.size⟩, hf⟩
  have := h1.len
  rw [List.length_append] at this
  omega
/-- feedTokens(1), a whole block with a newline in it. -/
theorem feed1 {a b : Addr} {Br rb : Nat} {D T E : List UInt8} {w : World} (h : FeedS Br rb 0 0 0 D [] 0 w w) (hBr : Br < rb) (hE : Err Br w 2 a) (hE2 : Err Br w 3 b) (hD : 512 ≤ D.length) (hP : D.take 512 = T ++ 10 :: E) (hT : ∀ x ∈ T, x ≠ 10) :
    Calls Tryd.prog 85 #[.int .i64 1, .pointer (some ⟨rb + 1, 0, none⟩), .pointer (some ⟨rb + 4, 0, none⟩), .pointer (some ⟨rb, 0, none⟩), .pointer (some ⟨rb + 3, 0, none⟩), .pointer (some ⟨rb + 2, 0, none⟩)] w fun e w' => e = .returned .nilIface ∧ RmS Br rb w'.heap.size (nl E + 1) 512 512 (D.drop 512) (T ++ 10 :: E) w w' := by
  have h1 : nl (D.take 512) = nl E + 1 := by rw [hP, nl_tok hT]
  refine (feed Br rb 0 0 0 1 1 D [] w h hBr hE hE2 (by omega) (.inr (by rw [Nat.mul_one, h1]; omega)) (by omega) (by omega) (by omega)).mono ?_
  rintro e w' (⟨j, hj, hjD, hn, hmin, rfl, hS⟩ | ⟨j, hjD, hj2, hn, _, _⟩)
  · by_cases hj1 : j = 1
    · subst hj1
      refine ⟨rfl, ?_⟩
      have := hS.rm (q := nl E + 1) (U' := T ++ 10 :: E) (D' := D.drop 512) (by rw [Nat.mul_one, h1, Nat.zero_add]) (by rw [Nat.mul_one, List.nil_append, hP]) rfl (by rw [List.length_append, List.length_cons]; omega)
      simpa using this
    · exfalso
      obtain rfl : j = 0 := by omega
      simp [nl] at hn
  · exfalso
    have h2 := nl_mono D (a := 512) (b := 512 * j) (by omega)
    omega
end Go.Proofs.YtlchagphjmfooaaDoor
