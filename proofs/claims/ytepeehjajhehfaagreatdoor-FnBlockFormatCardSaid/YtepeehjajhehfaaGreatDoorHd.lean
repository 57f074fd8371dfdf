/- A header of package spec as a value and as a block. -/
import Derived.Test.YtepeehjajhehfaaGreatDoorFar
import Derived.Test.YtepeehjajhehfaaGreatDoorRows
namespace Go.Proofs.YtepeehjajhehfaaGreatDoor
open Go.RowKit Go.PlainAid
set_option linter.unusedVariables false

structure Hd where
  ty : Int
  name : ByteArray
  link : ByteArray
  size : Int
  mode : Int
  uid : Int
  gid : Int
  un : ByteArray
  gn : ByteArray
  ms : Int
  mn : Int
  ha : Bool
  hc : Bool
  as_ : Int
  an : Int
  cs : Int
  cn : Int
  maj : Int
  min : Int
  rA : Option Addr
  rn : Nat
  rc : Nat
  fm : Int
/-- Its numbers are such, its strings no longer than any is. -/
structure Hd.Ok (h : Hd) : Prop where
  ty : 0 ≤ h.ty ∧ h.ty ≤ 255
  size : -9223372036854775808 ≤ h.size ∧ h.size ≤ 9223372036854775807
  mode : -9223372036854775808 ≤ h.mode ∧ h.mode ≤ 9223372036854775807
  uid : -9223372036854775808 ≤ h.uid ∧ h.uid ≤ 9223372036854775807
  gid : -9223372036854775808 ≤ h.gid ∧ h.gid ≤ 9223372036854775807
  ms : -9223372036854775808 ≤ h.ms ∧ h.ms ≤ 9223372036854775807
  mn : -9223372036854775808 ≤ h.mn ∧ h.mn ≤ 9223372036854775807
  as_ : -9223372036854775808 ≤ h.as_ ∧ h.as_ ≤ 9223372036854775807
  an : -9223372036854775808 ≤ h.an ∧ h.an ≤ 9223372036854775807
  cs : -9223372036854775808 ≤ h.cs ∧ h.cs ≤ 9223372036854775807
  cn : -9223372036854775808 ≤ h.cn ∧ h.cn ≤ 9223372036854775807
  maj : -9223372036854775808 ≤ h.maj ∧ h.maj ≤ 9223372036854775807
  min : -9223372036854775808 ≤ h.min ∧ h.min ≤ 9223372036854775807
  fm : -9223372036854775808 ≤ h.fm ∧ h.fm ≤ 9223372036854775807
  name : h.name.size ≤ 4611686018427387904
  link : h.link.size ≤ 4611686018427387904
  un : h.un.size ≤ 4611686018427387904
  gn : h.gn.size ≤ 4611686018427387904
def Hd.cells (h : Hd) : List Value := [.int .u8 h.ty, .string h.name, .string h.link, .int .i64 h.size, .int .i64 h.mode, .int .i64 h.uid, .int .i64 h.gid, .string h.un, .string h.gn, .int .i64 h.ms, .int .i64 h.mn, .bool h.ha, .bool h.hc, .int .i64 h.as_, .int .i64 h.an, .int .i64 h.cs, .int .i64 h.cn, .int .i64 h.maj, .int .i64 h.min, .slice h.rA h.rn h.rc, .int .i64 h.fm]
/-- The same as an array, which the walks leave alone. -/
def Hd.arr (h : Hd) : Array Value := h.cells.toArray
def Hd.val (h : Hd) : Value := .agg h.arr
theorem Hd.size_ (h : Hd) : (Tryz.prog.info? 32).map (·.size) = some h.arr.size := by
  show _ = some 21
  kernel_rfl
theorem Hd.blk (h : Hd) (w : World) (T : TypeId) : Blk (w.alloc (.cells h.arr T)) w.heap.size T h.cells := Blk.new w T h.cells
theorem Hd.new_ (h : Hd) (w : World) (T : TypeId) : Blk (w.alloc (.cells #[.int .u8 h.ty, .string h.name, .string h.link, .int .i64 h.size, .int .i64 h.mode, .int .i64 h.uid, .int .i64 h.gid, .string h.un, .string h.gn, .int .i64 h.ms, .int .i64 h.mn, .bool h.ha, .bool h.hc, .int .i64 h.as_, .int .i64 h.an, .int .i64 h.cs, .int .i64 h.cn, .int .i64 h.maj, .int .i64 h.min, .slice h.rA h.rn h.rc, .int .i64 h.fm] T)) w.heap.size T h.cells := Blk.new w T h.cells
end Go.Proofs.YtepeehjajhehfaaGreatDoor
