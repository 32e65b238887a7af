import Derived.Test.Qxb6627489aDoorBase
namespace Go.Proofs.Qxb6627489aDoor
open Go.RowKit

set_option maxHeartbeats 400000 in
theorem noStep_any (w : World) : Calls Tryd.prog 6 #[] w fun e w' => e = .returned (.pointer none) ∧ w = w' := by
  go_enter Tryd.func6, Tryd.ntmps6
  go_wp2
  go_ret
  exact ⟨rfl, rfl⟩

/-- A step's block. -/
def stepObj (up : Option Addr) (s : ByteArray) (z d : Int) : Obj := .cells #[.pointer up, .pointer none, .string s, .int .i64 z, .int .i64 d] 34

set_option maxHeartbeats 400000 in
theorem newStep_any (up : Option Addr) (s : ByteArray) (z d : Int) (w : World) : Calls Tryd.prog 7 #[.pointer up, .string s, .int .i64 z, .int .i64 d] w fun e w' => e = .returned (.pointer (some ⟨w.heap.size, 0, none⟩)) ∧ w.alloc (stepObj up s z d) = w' := by
  go_enter Tryd.func7, Tryd.ntmps7
  go_wp2
  go_ret
  exact ⟨rfl, rfl⟩

set_option maxHeartbeats 400000 in
theorem newPath_any (up : Option Addr) (f : Int) (w : World) : Calls Tryd.prog 8 #[.pointer up, .int .i64 f] w fun e w' => e = .returned (.agg #[.pointer up, .int .i64 f]) ∧ Below w.heap.size w w' := by
  go_enter Tryd.func8, Tryd.ntmps8
  go_wp2
  exact bodyPost_ret (v := .agg #[.pointer up, .int .i64 f]) (by simp [results, Tryd.results8, go_sem]) rfl ⟨rfl, (Below.refl _ _).alloc (Nat.le_refl _) _⟩

set_option maxHeartbeats 400000 in
theorem depthOf_any (B n : Nat) (ss : Nat → ByteArray) (zs : Nat → Int) (w : World) (h : Chain w B n ss zs) : Calls Tryd.prog 14 #[.pointer (lastOf B n)] w fun e w' => e = .returned (.int .i64 n) ∧ w' = w := by
  cases n with
  | zero =>
    show Calls Tryd.prog 14 #[.pointer none] w _
    go_enter Tryd.func14, Tryd.ntmps14
    go_wp2
    go_ret
    exact ⟨rfl, rfl⟩
  | succ n =>
    have hd := h.depth n (Nat.lt_succ_self _)
    show Calls Tryd.prog 14 #[.pointer (some ⟨B + n, 0, none⟩)] w _
    go_enter Tryd.func14, Tryd.ntmps14
    go_wp2
    go_ret
    exact ⟨rfl, rfl⟩

set_option maxHeartbeats 400000 in
theorem len_any (B n : Nat) (f : Nat) (hf : f ≤ n) (hn : n ≤ 65536) (ss : Nat → ByteArray) (zs : Nat → Int) (w : World) (h : Chain w B n ss zs) : Calls Tryd.prog 12 #[.agg #[.pointer (lastOf B n), .int .i64 f]] w fun e w' => e = .returned (.int .i64 ((n : Int) - (f : Int))) ∧ Below w.heap.size w w' := by
  have hch : ∀ (o : Obj) k, Calls Tryd.prog 14 #[.pointer (lastOf B n)] ((w.alloc o).drewN k) fun e w' => e = .returned (.int .i64 n) ∧ w' = (w.alloc o).drewN k := fun o k => depthOf_any B n ss zs _ (h.below (below_drewN ((Below.refl _ _).alloc (Nat.le_refl _) _) _))
  obtain ⟨L, hL⟩ : ∃ L, L = lastOf B n := ⟨_, rfl⟩
  rw [← hL] at hch ⊢
  clear h hL
  go_enter Tryd.func12, Tryd.ntmps12
  go_wp2
  go_quiet ((go_at_call 14; exact Calls.quiet_of_same (hch _ _)))
  go_wp2
  go_ret
  exact ⟨rfl, below_drewN ((Below.refl _ _).alloc (Nat.le_refl _) _) _⟩

end Go.Proofs.Qxb6627489aDoor
