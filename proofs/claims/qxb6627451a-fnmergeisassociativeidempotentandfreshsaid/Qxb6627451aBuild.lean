import Derived.Test.Qxb6627451aLeaf
namespace Go.Proofs.Qxb6627451a
open Go.RowKit Go.Maps

/-- The building loop's relation. -/
def URel (w : World) (ss : Nat → ByteArray) (zs : Nat → Int) (N : Nat) (i : Value) (wr : World) : Prop :=
  ∃ k : Nat, k ≤ N ∧ i = .int .i64 k ∧ wr.ownsMap Try.prog 9 (plainElem Try.prog 35) w.heap.size k (bD ss zs k) ∧ Below w.heap.size w wr

set_option maxHeartbeats 1000000 in
theorem build_some (x : Addr) (a' : Option Addr) (l0 l1 c0 c1 : Nat) (ss : Nat → ByteArray) (zs : Nat → Int) (w : World) (h0 : Strs w (some x) l0 ss) (h1 : Nums w a' l1 zs) :
    Calls Try.prog 7 #[.slice (some x) l0 c0, .slice a' l1 c1] w fun e w' => e = .returned (.map (some w.heap.size)) ∧ w'.ownsMap Try.prog 9 (plainElem Try.prog 35) w.heap.size (min l0 l1) (bD ss zs (min l0 l1)) ∧ Below w.heap.size w w' := by
  have hmm := run_makeHint
  have m0 := h0.len_le
  have m1 := h1.len_le
  unfold maxLen at m0 m1
  have q22 : ∀ (w : World) (a : Option Addr) (n c : Nat), (binOp .eql 22 (.slice a n c) (.slice none 0 0)).run Try.prog w = .ok (.bool a.isNone) w := fun w a n c => Lib.run_eql_slice_nil w _ _ a n c 0 0 Try.underlying22
  obtain ⟨N, hN, hN0, hN1⟩ : ∃ N, Hid (N = min l0 l1) ∧ N ≤ l0 ∧ N ≤ l1 := ⟨min l0 l1, rfl, by omega, by omega⟩
  rw [← hN.out]
  go_enter Try.func7, Try.ntmps7
  go_wp2_with (go_at_call 13; refine (pairs_any _ _ _ _ _ _ _).mono ?_; rw [← hN.out]; rintro e w' ⟨rfl, rfl⟩)
  go_loopw [7] (fun i wr => URel w ss zs N i wr) (fun i _ => N - (intOf i).toNat)
  case atStart => exact ⟨0, Nat.zero_le _, rfl, World.ownsMap_made _ _ _ _, (Below.refl _ _).alloc (Nat.le_refl _) _⟩
  case round =>
    obtain ⟨k, hk, rfl, hown, hnx⟩ := hrel
    by_cases hlt : k < N
    · obtain ⟨b, o, hix, hcx, hb⟩ := h0.idx (k := k) (by omega) c0
      obtain ⟨b', o', hix', hcx', hb'⟩ := h1.idx (k := k) (by omega) c1
      have hc2 : wr.cell? ⟨b, o, none⟩ = some (.string (ss k)) := (hnx.cell (p := ⟨b, o, none⟩) hb).trans hcx
      have hc2' : wr.cell? ⟨b', o', none⟩ = some (.int .u64 (zs k)) := (hnx.cell (p := ⟨b', o', none⟩) hb').trans hcx'
      obtain ⟨w1, hrun, hown1, hgrow1⟩ := World.ownsMap.update (w := wr.drew) hown law9 Try.underlying27 (by unfold maxLen; omega) (key_ok (h0.size k (by omega))) (plainElem_int Try.underlying35 (h1.wf k (by omega)))
      have R1 : w1.ownsMap Try.prog 9 (plainElem Try.prog 35) w.heap.size (k + 1) (bD ss zs (k + 1)) := hown1
      have R2 : Below w.heap.size w w1 := hnx.drew.grown hgrow1 hnx.size (fun j hj => by cases hj; exact Nat.le_refl _)
      clear hown1 hgrow1 hown hcx hcx' h0 h1
      go_wp2
      go_region
      go_wp2
      go_roundw
      case rel => exact ⟨k + 1, by omega, by go_num, R1, R2⟩
      case measure => simp [intOf]; omega
    · have hkN : k = N := by omega
      subst hkN
      clear h0 h1
      go_wp2
      go_ret
      exact ⟨rfl, hown, hnx⟩

set_option maxHeartbeats 400000 in
theorem build_nil (a' : Option Addr) (l0 l1 c0 c1 : Nat) (w : World) :
    Calls Try.prog 7 #[.slice none l0 c0, .slice a' l1 c1] w fun e w' => e = .returned (.map none) ∧ w = w' := by
  have q22 : ∀ (w : World) (a : Option Addr) (n c : Nat), (binOp .eql 22 (.slice a n c) (.slice none 0 0)).run Try.prog w = .ok (.bool a.isNone) w := fun w a n c => Lib.run_eql_slice_nil w _ _ a n c 0 0 Try.underlying22
  go_enter Try.func7, Try.ntmps7
  go_wp2
  go_ret
  exact ⟨rfl, rfl⟩

/-- zzBuild: nil keys give the nil clock; else a new map. -/
theorem build_any (a a' : Option Addr) (l0 l1 c0 c1 : Nat) (ss : Nat → ByteArray) (zs : Nat → Int) (w : World) (h0 : Strs w a l0 ss) (h1 : Nums w a' l1 zs) :
    Calls Try.prog 7 #[.slice a l0 c0, .slice a' l1 c1] w fun e w' => ∃ r : Option Nat, e = .returned (.map r) ∧ r.isNone = a.isNone ∧ Clk w' r (min l0 l1) (bD ss zs (min l0 l1)) ∧ Below w.heap.size w w' := by
  cases a with
  | none =>
    have hl := h0.nil_len
    subst hl
    refine (build_nil a' 0 l1 c0 c1 w).mono ?_
    rintro e w' ⟨rfl, rfl⟩
    refine ⟨none, rfl, rfl, .inl ⟨rfl, ?_⟩, Below.refl _ _⟩
    rw [Nat.zero_min]; rfl
  | some x =>
    refine (build_some x a' l0 l1 c0 c1 ss zs w h0 h1).mono ?_
    rintro e w' ⟨rfl, h2, h3⟩
    exact ⟨_, rfl, rfl, .inr ⟨_, rfl, h2⟩, h3⟩

end Go.Proofs.Qxb6627451a
