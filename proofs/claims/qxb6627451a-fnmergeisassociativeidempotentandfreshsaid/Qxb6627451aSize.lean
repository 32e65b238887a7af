import Derived.Test.Qxb6627451aLeaf
namespace Go.Proofs.Qxb6627451a
open Go.RowKit Go.Maps

set_option maxHeartbeats 400000 in
theorem strings_any (acc : Int) (a : Option Addr) (len cap : Nat) (ss : Nat → ByteArray) (w : World) (hk : Strs w a len ss) :
    Calls Try.prog 15 #[.int .i64 acc, .slice a len cap] w fun e w' => (∃ x, e = .returned (.int .i64 x)) ∧ w = w' := by
  have hmx := hk.len_le
  unfold maxLen at hmx
  by_cases h0 : len = 0
  · subst h0
    go_enter Try.func15, Try.ntmps15
    go_wp2_with (go_at_call 16; refine (words_any _ _ _).mono ?_; rintro e w' ⟨⟨x, rfl⟩, rfl⟩)
    refine wp_loop_rounds 1 ?_
    rw [rounds_succ]
    go_wp2
    go_ret
    exact ⟨⟨_, rfl⟩, rfl⟩
  · obtain ⟨b, off, rfl, hlt, hc⟩ := hk.cells (by omega)
    clear hk
    go_enter Try.func15, Try.ntmps15
    go_wp2_with (go_at_call 16; refine (words_any _ _ _).mono ?_; rintro e w' ⟨⟨x, rfl⟩, rfl⟩)
    go_loop [0, 5] (fun t i => (∃ x : Int, t = .int .i64 x) ∧ ∃ k : Nat, k ≤ len ∧ i = .int .i64 k) (fun _ i => len - (intOf i).toNat)
    case atStart => exact ⟨⟨_, rfl⟩, 0, Nat.zero_le _, rfl⟩
    case round =>
      obtain ⟨⟨x, rfl⟩, k, hk, rfl⟩ := hrel
      by_cases hlt : k < len
      · have hcx := hc k hlt
        clear hc
        go_wp2
        all_goals first
          | (go_ret; exact ⟨⟨_, rfl⟩, rfl⟩)
          | (go_round
             case rel => exact ⟨⟨_, rfl⟩, k + 1, by omega, by go_num⟩
             case measure => simp [intOf]; omega)
      · go_wp2
        go_ret
        exact ⟨⟨_, rfl⟩, rfl⟩

set_option maxHeartbeats 400000 in
theorem size_any (a0 a1 a2 a3 a4 a5 : Option Addr) (l0 l1 l2 l3 l4 l5 c0 c1 c2 c3 c4 c5 : Nat) (s0 s2 s4 : Nat → ByteArray) (w : World) (h0 : Strs w a0 l0 s0) (h2 : Strs w a2 l2 s2) (h4 : Strs w a4 l4 s4) :
    Calls Try.prog 6 #[.slice a0 l0 c0, .slice a1 l1 c1, .slice a2 l2 c2, .slice a3 l3 c3, .slice a4 l4 c4, .slice a5 l5 c5] w fun e w' => (∃ x, e = .returned (.int .i64 x)) ∧ w = w' := by
  go_enter Try.func6, Try.ntmps6
  go_wp2_with fail
  refine (strings_any _ _ _ _ _ _ h0).mono ?_
  rintro e w' ⟨⟨x, rfl⟩, rfl⟩
  go_wp2_with fail
  refine (words_any _ _ _).mono ?_
  rintro e w' ⟨⟨x, rfl⟩, rfl⟩
  go_wp2_with fail
  refine (strings_any _ _ _ _ _ _ h2).mono ?_
  rintro e w' ⟨⟨x, rfl⟩, rfl⟩
  go_wp2_with fail
  refine (words_any _ _ _).mono ?_
  rintro e w' ⟨⟨x, rfl⟩, rfl⟩
  go_wp2_with fail
  refine (strings_any _ _ _ _ _ _ h4).mono ?_
  rintro e w' ⟨⟨x, rfl⟩, rfl⟩
  go_wp2_with fail
  refine (words_any _ _ _).mono ?_
  rintro e w' ⟨⟨x, rfl⟩, rfl⟩
  go_wp2_with fail
  go_ret
  exact ⟨⟨_, rfl⟩, rfl⟩

end Go.Proofs.Qxb6627451a
