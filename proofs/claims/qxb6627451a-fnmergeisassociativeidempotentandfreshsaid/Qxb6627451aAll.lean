import Derived.Test.Qxb6627451aLeaf
namespace Go.Proofs.Qxb6627451a
open Go.RowKit Go.Maps

/-- At one key all four clocks hold the largest of the three. -/
def Hit (D1 D2 D3 D4 Da Db De : DataW Unit) (x : Lit) : Prop :=
  (Maps.has D1 x = true ∧ val D1 x = mx (mx (val Da x) (val Db x)) (val De x)) ∧ (Maps.has D2 x = true ∧ val D2 x = mx (mx (val Da x) (val Db x)) (val De x)) ∧
  (Maps.has D3 x = true ∧ val D3 x = mx (mx (val Da x) (val Db x)) (val De x)) ∧ (Maps.has D4 x = true ∧ val D4 x = mx (mx (val Da x) (val Db x)) (val De x))

/-- The loop's relation: it only reads. -/
def ARel (w : World) (N : Nat) (i : Value) (wr : World) : Prop := ∃ k m : Nat, k ≤ N ∧ i = .int .i64 k ∧ wr = w.drewN m

theorem max_quiet (a b : Int) (w : World) : Calls Try.prog 18 #[.int .u64 a, .int .u64 b] w fun e w' => e = .returned (.int .u64 (mx a b)) ∧ w' = w :=
  (max_any a b w).mono (by rintro e w' ⟨rfl, rfl⟩; exact ⟨rfl, rfl⟩)

set_option maxHeartbeats 1000000 in
theorem all_any (r1 r2 r3 r4 ra rb re : Option Nat) (n1 n2 n3 n4 na nb ne : Nat) (D1 D2 D3 D4 Da Db De : DataW Unit) (a a' : Option Addr) (l0 l1 c0 c1 : Nat) (ss : Nat → ByteArray) (w : World)
    (h0 : Strs w a l0 ss) (k1 : Clk w r1 n1 D1) (k2 : Clk w r2 n2 D2) (k3 : Clk w r3 n3 D3) (k4 : Clk w r4 n4 D4) (ka : Clk w ra na Da) (kb : Clk w rb nb Db) (ke : Clk w re ne De)
    (hit : ∀ i, i < min l0 l1 → Hit D1 D2 D3 D4 Da Db De (ky (ss i))) :
    Calls Try.prog 10 #[.map r1, .map r2, .map r3, .map r4, .map ra, .map rb, .map re, .slice a l0 c0, .slice a' l1 c1] w fun e w' => e = .returned (.bool true) ∧ ∃ m, w' = w.drewN m := by
  have m0 := h0.len_le
  unfold maxLen at m0
  obtain ⟨N, hN, hN0⟩ : ∃ N, Hid (N = min l0 l1) ∧ N ≤ l0 := ⟨min l0 l1, rfl, by omega⟩
  rw [← hN.out] at hit
  go_enter Try.func10, Try.ntmps10
  go_wp2_with (go_at_call 13; refine (pairs_any _ _ _ _ _ _ _).mono ?_; rw [← hN.out]; rintro e w' ⟨rfl, rfl⟩)
  go_loopw [20] (fun i wr => ARel w N i wr) (fun i _ => N - (intOf i).toNat)
  case atStart => exact ⟨0, 0, Nat.zero_le _, rfl, rfl⟩
  case round =>
    obtain ⟨k, m, hk, rfl, hwr⟩ := hrel
    have HW : Hid (wr = w.drewN m) := hwr
    by_cases hlt : k < N
    · obtain ⟨b, o, hix, hcx, hb⟩ := h0.idx (k := k) (by omega) c0
      obtain ⟨s, hs⟩ : ∃ s, s = ss k := ⟨_, rfl⟩
      have hsz : s.size ≤ maxLen := by rw [hs]; exact h0.size k (by omega)
      have hh := hit k hlt
      rw [← hs] at hh hcx
      have hcr : wr.cell? ⟨b, o, none⟩ = some (.string s) := by rw [hwr]; exact hcx
      clear hs hit h0 hcx
      obtain ⟨⟨g1, v1⟩, ⟨g2, v2⟩, ⟨g3, v3⟩, ⟨g4, v4⟩⟩ := hh
      have la : ∀ n, (Instr.lookup 27 (.map ra) (.string s) false).run Try.prog (wr.drewN n) = .ok (.int .u64 (val Da (ky s))) (wr.drewN n) := fun n => by rw [hwr]; exact ((ka.drewN m).drewN n).look hsz
      have lb : ∀ n, (Instr.lookup 27 (.map rb) (.string s) false).run Try.prog (wr.drewN n) = .ok (.int .u64 (val Db (ky s))) (wr.drewN n) := fun n => by rw [hwr]; exact ((kb.drewN m).drewN n).look hsz
      have le : ∀ n, (Instr.lookup 27 (.map re) (.string s) false).run Try.prog (wr.drewN n) = .ok (.int .u64 (val De (ky s))) (wr.drewN n) := fun n => by rw [hwr]; exact ((ke.drewN m).drewN n).look hsz
      have T1 : Hid (∀ n, Clk (wr.drewN n) r1 n1 D1 ∧ Clk (wr.drewN n) r2 n2 D2 ∧ Clk (wr.drewN n) r3 n3 D3 ∧ Clk (wr.drewN n) r4 n4 D4) := by
        intro n; rw [hwr]; exact ⟨(k1.drewN m).drewN n, (k2.drewN m).drewN n, (k3.drewN m).drewN n, (k4.drewN m).drewN n⟩
      have V1 : Hid (_ ∧ _ ∧ _ ∧ _) := ⟨v1, v2, v3, v4⟩
      have G1 : Hid (_ ∧ _ ∧ _ ∧ _) := ⟨g1, g2, g3, g4⟩
      clear g1 v1 g2 v2 g3 v3 g4 v4 k1 k2 k3 k4 ka kb ke hwr
      go_wp2
      go_quiet ((go_at_call 18; exact Calls.quiet_of_same (max_quiet _ _ _)))
      go_wp2_with fail
      refine (has_true (T1.out _).1 hsz G1.out.1 V1.out.1).mono ?_
      rintro e w' ⟨rfl, rfl⟩
      go_wp2_with fail
      refine (has_true (T1.out _).2.1 hsz G1.out.2.1 V1.out.2.1).mono ?_
      rintro e w' ⟨rfl, rfl⟩
      go_wp2_with fail
      refine (has_true (T1.out _).2.2.1 hsz G1.out.2.2.1 V1.out.2.2.1).mono ?_
      rintro e w' ⟨rfl, rfl⟩
      go_wp2_with fail
      refine (has_true (T1.out _).2.2.2 hsz G1.out.2.2.2 V1.out.2.2.2).mono ?_
      rintro e w' ⟨rfl, rfl⟩
      go_wp2_with fail
      go_roundw
      case rel => exact ⟨k + 1, m + nq, by omega, by go_num, by rw [HW.out, World.drewN_drewN]⟩
      case measure => simp [intOf]; omega
    · clear hwr
      go_wp2
      go_ret
      exact ⟨rfl, _, HW.out⟩

end Go.Proofs.Qxb6627451a
