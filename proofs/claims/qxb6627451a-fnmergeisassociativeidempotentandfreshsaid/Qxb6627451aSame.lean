import Derived.Test.Qxb6627451aLeaf
namespace Go.Proofs.Qxb6627451a
open Go.RowKit Go.Maps

/-- The loop's relation: nothing turns but the counter. -/
def SRel (N : Nat) (i : Value) : Prop := ∃ k : Nat, k ≤ N ∧ i = .int .i64 k

set_option maxHeartbeats 1000000 in
theorem same_any (rx rk : Option Nat) (n m : Nat) (D : DataW Unit) (a a' : Option Addr) (l0 l1 c0 c1 : Nat) (ss : Nat → ByteArray) (w : World)
    (h0 : Strs w a l0 ss) (kx : Clk w rx n D) (kk : Clk w rk m D) (hnil : rx.isNone = rk.isNone) (hit : ∀ i, i < min l0 l1 → Maps.has D (ky (ss i)) = true) :
    Calls Try.prog 11 #[.map rx, .map rk, .slice a l0 c0, .slice a' l1 c1] w fun e w' => e = .returned (.bool true) ∧ w = w' := by
  have m0 := h0.len_le
  unfold maxLen at m0
  obtain ⟨N, hN, hN0⟩ : ∃ N, Hid (N = min l0 l1) ∧ N ≤ l0 := ⟨min l0 l1, rfl, by omega⟩
  rw [← hN.out] at hit
  obtain ⟨z, hz⟩ : ∃ z, rk.isNone = z := ⟨_, rfl⟩
  have q1 : ∀ w, (binOp .eql 27 (.map rx) (.map none)).run Try.prog w = .ok (.bool z) w := fun w => by rw [eql_nil, hnil, hz]
  have q2 : ∀ w, (binOp .eql 27 (.map rk) (.map none)).run Try.prog w = .ok (.bool z) w := fun w => by rw [eql_nil, hz]
  have lx := kx.len 3
  have lk := kk.len 3
  clear hz hnil
  go_enter Try.func11, Try.ntmps11
  go_wp2_with (go_at_call 13; refine (pairs_any _ _ _ _ _ _ _).mono ?_; rw [← hN.out]; rintro e w' ⟨rfl, rfl⟩)
  clear q1 q2 lx lk
  go_loop [10] (fun i => SRel N i) (fun i => N - (intOf i).toNat)
  case atStart => exact ⟨0, Nat.zero_le _, rfl⟩
  case round =>
    obtain ⟨k, hk, rfl⟩ := hrel
    by_cases hlt : k < N
    · obtain ⟨b, o, hix, hcx, hb⟩ := h0.idx (k := k) (by omega) c0
      have hsz := h0.size k (by omega)
      have hl := kk.look hsz
      have G : Hid (Maps.has D (ky (ss k)) = true) := hit k hlt
      clear hit h0
      go_wp2_with (go_at_call 14; refine (has_true kx hsz G.out rfl).mono ?_; rintro e w' ⟨rfl, rfl⟩)
      go_round
      case rel => exact ⟨k + 1, by omega, by go_num⟩
      case measure => simp [intOf]; omega
    · go_wp2
      go_ret
      exact ⟨rfl, rfl⟩

end Go.Proofs.Qxb6627451a
