/- 'append(out, x)' of one value of one cell onto a row of the call's own; where the new row lies. Over any program. No condition. -/
import Derived.Test.YtepeehjajhehfaaGreatDoorO
import Derived.Maps.AppendAt
namespace Go.Proofs.YtepeehjajhehfaaGreatDoor
open Go.RowKit
section
variable {P : Program}
theorem one_at (W : World) (T : TypeId) (x : Value) : ∀ j u, [x][j]? = some u → (W.alloc (.cells #[x] T)).cell? ((⟨W.heap.size, 0, none⟩ : Addr).add j) = some u := by
  intro j u h
  have hj : j = 0 := by
    have := (List.getElem?_eq_some_iff.1 h).1
    simpa using this
  subst hj
  rw [Addr.add_lit, Nat.add_zero, (Blk.new W T [x]).cell]
  exact h
theorem wpList_append_one {W : World} {T : TypeId} {x : Value} {ops : Array Oper} {rest : List Oper} {o : Oper} {a : Act} {Q : Exit → Act → World → Prop} (hgd : o.guard = none) (s y : Operand) (t : TypeId)
    (ho : o.op = .call { callee := .builtin .append, args := #[s, y], argTypes := #[t, t] })
    (base : Nat) (e : TypeId) (z : Value) (bytes : Nat) (ht : P.underlying t = some (.slice e)) (hinfo : (P.info? e).map (fun i => (i.zero, i.size, i.bytes)) = some (some z, 1, bytes)) (hzs : z.cells.size = 1)
    (v : Value) (n : Nat) (xs : List Value) (hs : a.eval s = v) (hown : (W.alloc (.cells #[x] T)).ownsRow base e 1 v n xs)
    (hx : a.eval y = .slice (some ⟨W.heap.size, 0, none⟩) 1 1) (h1 : x.oneCell' = true)
    (h63 : n + 1 ≤ 9223372036854775807) (hbytes : (n + 1) * bytes ≤ 140737488355328) (hbase : base ≤ W.heap.size)
    (hK : ∀ v' w', Hid (w'.ownsRow base e 1 v' (n + 1) (xs ++ [x])) → Hid ((W.alloc (.cells #[x] T)).grownBy w' v.ownBlock) → Hid (v'.ownBlock = v.ownBlock ∨ v'.ownBlock = some (W.alloc (.cells #[x] T)).heap.size) → wpList P ops Q rest (a.put o.dst v') w') :
    wpList P ops Q (o :: rest) a (W.alloc (.cells #[x] T)) := by
  obtain ⟨i, hi, hz0, hz1, hz2⟩ := info_parts hinfo
  exact wpList_append_own_at _ hgd s y t ho base e i z 1 bytes ht hi hz0 hz1 hz2 hzs (by omega) v n xs hs hown ⟨W.heap.size, 0, none⟩ 1 1 [x] hx rfl (one_at W T x) (fun u hu => by rw [List.mem_singleton.1 hu]; exact h1) (by unfold maxLen; omega) hbytes (by simp; omega) (fun v' w' h2 h3 _ h5 => hK v' w' h2 h3 h5)
end
end Go.Proofs.YtepeehjajhehfaaGreatDoor
