import Derived.Test.Qxb6627489aDoorMore
namespace Go.Proofs.Qxb6627489aDoor
open Go.RowKit

/-- One step more. -/
theorem Chain.snoc {w : World} {B n : Nat} {ss : Nat → ByteArray} {zs : Nat → Int} (h : Chain w B n ss zs) (hB : w.heap.size = B + n) : Chain (w.alloc (stepObj (lastOf B n) (ss n) (zs n) ((n : Int) + 1))) B (n + 1) ss zs := by
  have old : ∀ j i, j < n → (w.alloc (stepObj (lastOf B n) (ss n) (zs n) ((n : Int) + 1))).cell? ⟨B + j, i, none⟩ = w.cell? ⟨B + j, i, none⟩ := fun j i hj => World.cell?_alloc_lt _ _ _ (show B + j < w.heap.size by omega)
  have new : ∀ i, (w.alloc (stepObj (lastOf B n) (ss n) (zs n) ((n : Int) + 1))).cell? ⟨B + n, i, none⟩ = (#[.pointer (lastOf B n), .pointer none, .string (ss n), .int .i64 (zs n), .int .i64 ((n : Int) + 1)] : Array Value)[i]? := fun i => by
    rw [← hB]; exact World.cell?_alloc_new _ _ _ _
  refine ⟨fun j hj => ?_, fun j hj => ?_, fun j hj => ?_, fun j hj => ?_, by simp; omega⟩
  · by_cases e : j = n
    · subst e; rw [new]; rfl
    · rw [old j 0 (by omega)]; exact h.up j (by omega)
  · by_cases e : j = n
    · subst e; rw [new]; rfl
    · rw [old j 2 (by omega)]; exact h.name j (by omega)
  · by_cases e : j = n
    · subst e; rw [new]; rfl
    · rw [old j 3 (by omega)]; exact h.index j (by omega)
  · by_cases e : j = n
    · subst e; rw [new]; rfl
    · rw [old j 4 (by omega)]; exact h.depth j (by omega)

/-- The chain-building loop. -/
def ChRel (w : World) (n : Nat) (ss : Nat → ByteArray) (zs : Nat → Int) (t i : Value) (wr : World) : Prop :=
  ∃ k : Nat, k ≤ n ∧ t = .pointer (lastOf w.heap.size k) ∧ i = .int .i64 k ∧ Chain wr w.heap.size k ss zs ∧ wr.heap.size = w.heap.size + k ∧ Below w.heap.size w wr
theorem chrel_start (w : World) (n : Nat) (ss : Nat → ByteArray) (zs : Nat → Int) : ChRel w n ss zs (.pointer none) (.int .i64 0) w :=
  ⟨0, Nat.zero_le _, rfl, rfl, ⟨fun j h => by omega, fun j h => by omega, fun j h => by omega, fun j h => by omega, Nat.le_refl _⟩, rfl, Below.refl _ _⟩

theorem steps_int (B n f L : Nat) (fi : Int) (hfi : fi = f) (hL : n = f + L) (hn : n ≤ 65536) (ss : Nat → ByteArray) (zs : Nat → Int) (hs : ∀ j, j < n → (ss j).size ≤ maxLen) (hz : ∀ j, j < n → zs j ≤ 9223372036854775807) (w : World) (h : Chain w B n ss zs) (ht : Tab w) :
    Calls Tryd.prog 9 #[.agg #[.pointer (lastOf B n), .int .i64 fi]] w fun e w' => StepsPost w L f ss zs e w' := by
  subst hfi; exact steps_any B n f L hL hn ss zs hs hz w h ht
/-- The loops that only read. -/
def ARel (w : World) (N : Nat) (i : Value) (wr : World) : Prop := ∃ k m : Nat, k ≤ N ∧ i = .int .i64 k ∧ wr = w.drewN m
theorem eql_nil_slice (a : Option Addr) (n c : Nat) (w : World) : (binOp .eql 22 (.slice a n c) (.slice none 0 0)).run Tryd.prog w = .ok (.bool a.isNone) w := Lib.run_eql_slice_nil w _ _ a n c 0 0 Tryd.underlying22

/-- A counter alone. -/
def SRel (N : Nat) (i : Value) : Prop := ∃ k : Nat, k ≤ N ∧ i = .int .i64 k

/-- The counting loop of the law's own bound. -/
def TRel (l : Nat) (t i : Value) : Prop := ∃ (x : Int) (k : Nat), t = .int .i64 x ∧ k ≤ l ∧ i = .int .i64 k

end Go.Proofs.Qxb6627489aDoor
