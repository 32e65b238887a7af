import Derived.Test.Qxb6627489aDoorLeaf
import Derived.Lib.ItoaLen
namespace Go.Proofs.Qxb6627489aDoor
open Go.RowKit

theorem itoa_size (z : Int) (h0 : -9223372036854775808 ≤ z) (h1 : z ≤ 9223372036854775807) : (⟨(Lib.itoa z).toArray⟩ : ByteArray).size ≤ 21 := by
  have := Lib.itoa_length_le z h0 h1
  simpa [ByteArray.size] using this
theorem add_open (s : ByteArray) (h : s.size ≤ 24) (w : World) : (binOp .add 9 (.string { data := #[91] }) (.string s)).run Tryd.prog w = .ok (.string (⟨#[91]⟩ ++ s)) w := by
  rw [binOp_string_add, run_string_add_sum]
  show (1 : Nat) + s.size ≤ _
  omega
theorem add_shut (s : ByteArray) (h : s.size ≤ 24) (w : World) : (binOp .add 9 (.string (⟨#[91]⟩ ++ s)) (.string { data := #[93] })).run Tryd.prog w = .ok (.string (brk s)) w := by
  rw [binOp_string_add, run_string_add_sum]
  · rfl
  · rw [ByteArray.size_append]
    show (1 : Nat) + s.size + 1 ≤ _
    omega

set_option maxHeartbeats 400000 in
theorem text_name (b : Nat) (s : ByteArray) (z : Int) (w : World) (hn : w.cell? ⟨b, 2, none⟩ = some (.string s)) (hi : w.cell? ⟨b, 3, none⟩ = some (.int .i64 z)) (hz : z < 0) :
    Calls Tryd.prog 13 #[.pointer (some ⟨b, 0, none⟩)] w fun e w' => e = .returned (.string s) ∧ w = w' := by
  go_enter Tryd.func13, Tryd.ntmps13
  go_wp2
  go_ret
  exact ⟨rfl, rfl⟩

set_option maxHeartbeats 400000 in
theorem text_index (b : Nat) (z : Int) (w : World) (ht : Tab w) (hi : w.cell? ⟨b, 3, none⟩ = some (.int .i64 z)) (hz : ¬ z < 0) (h1 : z ≤ 9223372036854775807) :
    Calls Tryd.prog 13 #[.pointer (some ⟨b, 0, none⟩)] w fun e w' => e = .returned (.string (brk ⟨(Lib.itoa z).toArray⟩)) ∧ Below w.heap.size w w' := by
  have hs := itoa_size z (by omega) h1
  have hc := Tryd.strconv_Itoa z (by omega) h1 w ht
  obtain ⟨s, hst⟩ : ∃ s : ByteArray, s = ⟨(Lib.itoa z).toArray⟩ := ⟨_, rfl⟩
  rw [← hst] at hs hc ⊢
  have q1 := add_open s (by omega)
  have q2 := add_shut s (by omega)
  have HC := hc
  clear hst ht hc
  go_enter Tryd.func13, Tryd.ntmps13
  go_wp2_with fail
  refine HC.mono ?_
  rintro e w' ⟨rfl, k, os, rfl⟩
  have hb := below_grow w k os
  clear HC
  go_wp2_with fail
  go_ret
  exact ⟨rfl, hb⟩

/-- The text of a step of a chain. -/
theorem text_any (B n j : Nat) (ss : Nat → ByteArray) (zs : Nat → Int) (w : World) (h : Chain w B n ss zs) (hj : j < n) (ht : Tab w) (h1 : zs j ≤ 9223372036854775807) :
    Calls Tryd.prog 13 #[.pointer (some ⟨B + j, 0, none⟩)] w fun e w' => e = .returned (.string (txt (ss j) (zs j))) ∧ Below w.heap.size w w' := by
  unfold txt
  by_cases hz : zs j < 0
  · rw [if_pos hz]
    refine (text_name (B + j) (ss j) (zs j) w (h.name j hj) (h.index j hj) hz).mono ?_
    rintro e w' ⟨rfl, rfl⟩
    exact ⟨rfl, Below.refl _ _⟩
  · rw [if_neg hz]
    exact text_index (B + j) (zs j) w ht (h.index j hj) hz h1

end Go.Proofs.Qxb6627489aDoor
