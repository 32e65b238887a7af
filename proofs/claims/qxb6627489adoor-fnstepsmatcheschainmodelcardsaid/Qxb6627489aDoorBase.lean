import Derived.Test.Qxb6627489aDoorShelf
import Derived.WalkKit
import Derived.WalkSpells
import Derived.WalkLawsBesides
import Derived.Deep.QuietTactic
import Derived.BigQuiet
import Derived.RegionTactic
import Derived.Deep.RegionWith
import Derived.Deep.OwnRows
import Derived.Lib.AppendIntMem
import Derived.Lib.SmallJoins
namespace Go.Proofs.Qxb6627489aDoor
open Go.RowKit

/-! ### the slices that came in, and those that the call makes -/
structure Strs (w : World) (a : Option Addr) (len : Nat) (ss : Nat → ByteArray) : Prop where
  size : ∀ j, j < len → (ss j).size ≤ maxLen
  cells : 0 < len → ∃ b off, a = some ⟨b, off, none⟩ ∧ b < w.heap.size ∧ ∀ j, j < len → w.cell? ⟨b, off + j, none⟩ = some (.string (ss j))
  len_le : len ≤ maxLen
structure Nums (w : World) (a : Option Addr) (len : Nat) (zs : Nat → Int) : Prop where
  bd : ∀ j, j < len → -9223372036854775808 ≤ zs j ∧ zs j ≤ 9223372036854775807
  cells : 0 < len → ∃ b off, a = some ⟨b, off, none⟩ ∧ b < w.heap.size ∧ ∀ j, j < len → w.cell? ⟨b, off + j, none⟩ = some (.int .i64 (zs j))
  len_le : len ≤ maxLen

theorem Strs.below {w w' : World} {a : Option Addr} {len : Nat} {ss : Nat → ByteArray} (h : Strs w a len ss) (hb : Below w.heap.size w w') : Strs w' a len ss :=
  ⟨h.size, fun h0 => by
    obtain ⟨b, off, ha, hlt, hc⟩ := h.cells h0
    exact ⟨b, off, ha, Nat.lt_of_lt_of_le hlt hb.size, fun j hj => (hb.cell (p := ⟨b, off + j, none⟩) hlt).trans (hc j hj)⟩, h.len_le⟩
theorem Nums.below {w w' : World} {a : Option Addr} {len : Nat} {zs : Nat → Int} (h : Nums w a len zs) (hb : Below w.heap.size w w') : Nums w' a len zs :=
  ⟨h.bd, fun h0 => by
    obtain ⟨b, off, ha, hlt, hc⟩ := h.cells h0
    exact ⟨b, off, ha, Nat.lt_of_lt_of_le hlt hb.size, fun j hj => (hb.cell (p := ⟨b, off + j, none⟩) hlt).trans (hc j hj)⟩, h.len_le⟩

theorem sz9 (w : World) : (sizeOf 9).run Tryd.prog w = .ok 1 w := by kernel_rfl
theorem sz3 (w : World) : (sizeOf 3).run Tryd.prog w = .ok 1 w := by kernel_rfl
theorem el22 : Tryd.prog.elem 22 = 9 := by simp [Program.elem, Tryd.underlying22]
theorem el23 : Tryd.prog.elem 23 = 3 := by simp [Program.elem, Tryd.underlying23]
theorem Strs.idx {w : World} {a : Option Addr} {len : Nat} {ss : Nat → ByteArray} (h : Strs w a len ss) {k : Nat} (hk : k < len) (cap : Nat) :
    ∃ b o, (∀ w1 : World, (Instr.indexAt 22 (.slice a len cap) (.int .i64 (k : Int))).run Tryd.prog w1 = .ok (.pointer (some ⟨b, o, none⟩)) w1) ∧ w.cell? ⟨b, o, none⟩ = some (.string (ss k)) ∧ b < w.heap.size := by
  obtain ⟨b, off, rfl, hlt, hc⟩ := h.cells (by omega)
  refine ⟨b, off + k, fun w1 => ?_, hc k hk, hlt⟩
  rw [run_indexAt_slice (P := Tryd.prog) w1 22 ⟨b, off, none⟩ len cap .i64 (k : Int) (by rw [el22]; exact Tryd.underlying22), if_pos (by omega), el22, sz9]
  simp [Result.andThen, Addr.add]
theorem Nums.idx {w : World} {a : Option Addr} {len : Nat} {zs : Nat → Int} (h : Nums w a len zs) {k : Nat} (hk : k < len) (cap : Nat) :
    ∃ b o, (∀ w1 : World, (Instr.indexAt 23 (.slice a len cap) (.int .i64 (k : Int))).run Tryd.prog w1 = .ok (.pointer (some ⟨b, o, none⟩)) w1) ∧ w.cell? ⟨b, o, none⟩ = some (.int .i64 (zs k)) ∧ b < w.heap.size := by
  obtain ⟨b, off, rfl, hlt, hc⟩ := h.cells (by omega)
  refine ⟨b, off + k, fun w1 => ?_, hc k hk, hlt⟩
  rw [run_indexAt_slice (P := Tryd.prog) w1 23 ⟨b, off, none⟩ len cap .i64 (k : Int) (by rw [el23]; exact Tryd.underlying23), if_pos (by omega), el23, sz3]
  simp [Result.andThen, Addr.add]

/-! ### the chain of steps -/
/-- The last step after j of them, the first lying in block B. -/
def lastOf (B : Nat) : Nat → Option Addr
  | 0 => none
  | j + 1 => some ⟨B + j, 0, none⟩

/-- n steps in the blocks B, B + 1 ..: step j (from 0) points to the one before it, bears the j-th name and index, and lies at depth j + 1. -/
structure Chain (w : World) (B n : Nat) (ss : Nat → ByteArray) (zs : Nat → Int) : Prop where
  up : ∀ j, j < n → w.cell? ⟨B + j, 0, none⟩ = some (.pointer (lastOf B j))
  name : ∀ j, j < n → w.cell? ⟨B + j, 2, none⟩ = some (.string (ss j))
  index : ∀ j, j < n → w.cell? ⟨B + j, 3, none⟩ = some (.int .i64 (zs j))
  depth : ∀ j, j < n → w.cell? ⟨B + j, 4, none⟩ = some (.int .i64 ((j : Int) + 1))
  lt : B + n ≤ w.heap.size

theorem Chain.below {w w' : World} {B n : Nat} {ss : Nat → ByteArray} {zs : Nat → Int} (h : Chain w B n ss zs) (hb : Below w.heap.size w w') : Chain w' B n ss zs :=
  ⟨fun j hj => (hb.cell (p := ⟨B + j, 0, none⟩) (by have := h.lt; show B + j < _; omega)).trans (h.up j hj),
   fun j hj => (hb.cell (p := ⟨B + j, 2, none⟩) (by have := h.lt; show B + j < _; omega)).trans (h.name j hj),
   fun j hj => (hb.cell (p := ⟨B + j, 3, none⟩) (by have := h.lt; show B + j < _; omega)).trans (h.index j hj),
   fun j hj => (hb.cell (p := ⟨B + j, 4, none⟩) (by have := h.lt; show B + j < _; omega)).trans (h.depth j hj), Nat.le_trans h.lt hb.size⟩

/-- The text of a step. -/
def brk (s : ByteArray) : ByteArray := (⟨#[91]⟩ ++ s) ++ ⟨#[93]⟩
def txt (s : ByteArray) (z : Int) : ByteArray := if z < 0 then s else brk ⟨(Lib.itoa z).toArray⟩

/-- The library's table, whatever is laid from the heap's end on. -/
abbrev Tab (w : World) : Prop := Lib.TabIs Tryd.prog w tabName .u64 Lib.pow10Tab
theorem Tab.below {w w' : World} (h : Tab w) (hb : Below w.heap.size w w') : Tab w' := Lib.tabBelow_of_tabIs h w' hb

theorem below_grow (w : World) (k : Nat) (os : Array Obj) : Below w.heap.size w (Sort.grow (w.drewN k) os) :=
  ⟨rfl, rfl, rfl, by simp [Sort.grow], fun i hi => by simp [Sort.grow, Array.getElem?_append, hi]⟩

end Go.Proofs.Qxb6627489aDoor
