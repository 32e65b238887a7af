import Derived.Test.Qxb6627541aLeaf
namespace Go.Proofs.Qxb6627541a
open Go.RowKit

/-- The copying loop of cloneF: the first k are there. -/
structure FillcloneF (w : World) (G n k : Nat) (fs : Nat → Nat) : Prop where
  cell : ∀ j, j < n → w.cell? ⟨G, j, none⟩ = some (.float .f64 (if j < k then fs j else 0))
  frozen : ∀ j, j < n → w.frozen? ⟨G, j, none⟩ = false
theorem FillcloneF.store {w : World} {G n k : Nat} {fs : Nat → Nat} (h : FillcloneF w G n k fs) (hk : k < n) : FillcloneF (w.setCell ⟨G, k, none⟩ (.float .f64 (fs k))) G n (k + 1) fs := by
  refine ⟨fun j hj => ?_, fun j hj => by rw [World.frozen?_setCell]; exact h.frozen j hj⟩
  by_cases e : j = k
  · subst e
    rw [World.cell?_setCell_same w _ _ (h.cell j hj), if_pos (by omega)]
  · rw [World.cell?_setCell_other _ _ _ _ (by intro e'; have h2 := congrArg Addr.off e'; dsimp only at h2; omega), h.cell j hj]
    by_cases c : j < k
    · rw [if_pos c, if_pos (by omega)]
    · rw [if_neg c, if_neg (by omega)]
theorem fillcloneF_made (w : World) (n : Nat) (fs : Nat → Nat) : FillcloneF (w.alloc (.cells (madeCells #[.float .f64 0] n) 24)) w.heap.size n 0 fs := by
  refine ⟨fun j hj => ?_, fun j hj => World.frozen?_alloc_new _ _ _ _⟩
  rw [if_neg (by omega), World.cell?_alloc_new]
  simp [madeCells, hj, Nat.mod_one]
def RelcloneF (w : World) (n : Nat) (fs : Nat → Nat) (i : Value) (wr : World) : Prop :=
  ∃ k : Nat, k ≤ n ∧ i = .int .i64 k ∧ FillcloneF wr w.heap.size n k fs ∧ wr.heap.size = w.heap.size + 1 ∧ Below w.heap.size w wr
theorem info24 : (Try.prog.info? 24).map (fun i => (i.zero, i.size, i.bytes)) = some (some (.float .f64 0), 1, 8) := by kernel_rfl

set_option maxHeartbeats 1000000 in
theorem cloneF_some (B : Nat) (x : Addr) (n c : Nat) (fs : Nat → Nat) (w : World) (h : Flts w B (some x) n fs) (hB : B ≤ w.heap.size) (hn : n ≤ 65536) :
    Calls Try.prog 7 #[.slice (some x) n c] w fun e w' => e = .returned (.slice (some ⟨w.heap.size, 0, none⟩) n n) ∧ FillcloneF w' w.heap.size n n fs ∧ w'.heap.size = w.heap.size + 1 ∧ Below w.heap.size w w' := by
  have hmk := fun w => run_make_row' (P := Try.prog) 22 24 (.float .f64 0) 8 Try.underlying22 info24 rfl .i64 .i64 n (by omega) (by omega) w
  have q : ∀ (w : World) (a : Option Addr) (n c : Nat), (binOp .eql 22 (.slice a n c) (.slice none 0 0)).run Try.prog w = .ok (.bool a.isNone) w := fun w a n c => Lib.run_eql_slice_nil w _ _ a n c 0 0 Try.underlying22
  go_enter Try.func7, Try.ntmps7
  go_wp2
  clear hmk q
  have hst := st_float
  go_loopw [4] (fun i wr => RelcloneF w n fs i wr) (fun i _ => n - (intOf i).toNat)
  case atStart => exact ⟨0, Nat.zero_le _, rfl, fillcloneF_made w n fs, by simp, (Below.refl _ _).alloc (Nat.le_refl _) _⟩
  case round =>
    obtain ⟨k, hk, rfl, F, hsz, hnx⟩ := hrel
    by_cases hlt : k < n
    · obtain ⟨b, o, hix, hcx, hb⟩ := h.idx hlt c
      have hc2 : wr.cell? ⟨b, o, none⟩ = some (.float .f64 (fs k)) := (hnx.cell (p := ⟨b, o, none⟩) (by show b < _; omega)).trans hcx
      have hcm := F.cell k hlt
      rw [if_neg (by omega)] at hcm
      have hfm := F.frozen k hlt
      have F2 := F.store hlt
      have B2 : Below w.heap.size w (wr.setCell ⟨w.heap.size, k, none⟩ (.float .f64 (fs k))) := hnx.setCell (Nat.le_refl _) _
      have HS : Hid (wr.heap.size = w.heap.size + 1) := hsz
      clear h hcx F hnx hsz
      go_wp2
      go_roundw
      case rel => exact ⟨k + 1, by omega, by go_num, F2, by simpa [World.setCell] using HS.out, B2⟩
      case measure => simp [intOf]; omega
    · obtain rfl : n = k := by omega
      have HS : Hid (wr.heap.size = w.heap.size + 1) := hsz
      clear h hsz
      go_wp2
      go_ret
      exact ⟨rfl, F, HS.out, hnx⟩

/-- The copying loop of cloneU: the first k are there. -/
structure FillcloneU (w : World) (G n k : Nat) (fs : Nat → Int) : Prop where
  cell : ∀ j, j < n → w.cell? ⟨G, j, none⟩ = some (.int .u64 (if j < k then fs j else 0))
  frozen : ∀ j, j < n → w.frozen? ⟨G, j, none⟩ = false
theorem FillcloneU.store {w : World} {G n k : Nat} {fs : Nat → Int} (h : FillcloneU w G n k fs) (hk : k < n) : FillcloneU (w.setCell ⟨G, k, none⟩ (.int .u64 (fs k))) G n (k + 1) fs := by
  refine ⟨fun j hj => ?_, fun j hj => by rw [World.frozen?_setCell]; exact h.frozen j hj⟩
  by_cases e : j = k
  · subst e
    rw [World.cell?_setCell_same w _ _ (h.cell j hj), if_pos (by omega)]
  · rw [World.cell?_setCell_other _ _ _ _ (by intro e'; have h2 := congrArg Addr.off e'; dsimp only at h2; omega), h.cell j hj]
    by_cases c : j < k
    · rw [if_pos c, if_pos (by omega)]
    · rw [if_neg c, if_neg (by omega)]
theorem fillcloneU_made (w : World) (n : Nat) (fs : Nat → Int) : FillcloneU (w.alloc (.cells (madeCells #[.int .u64 0] n) 30)) w.heap.size n 0 fs := by
  refine ⟨fun j hj => ?_, fun j hj => World.frozen?_alloc_new _ _ _ _⟩
  rw [if_neg (by omega), World.cell?_alloc_new]
  simp [madeCells, hj, Nat.mod_one]
def RelcloneU (w : World) (n : Nat) (fs : Nat → Int) (i : Value) (wr : World) : Prop :=
  ∃ k : Nat, k ≤ n ∧ i = .int .i64 k ∧ FillcloneU wr w.heap.size n k fs ∧ wr.heap.size = w.heap.size + 1 ∧ Below w.heap.size w wr
theorem info30 : (Try.prog.info? 30).map (fun i => (i.zero, i.size, i.bytes)) = some (some (.int .u64 0), 1, 8) := by kernel_rfl

set_option maxHeartbeats 1000000 in
theorem cloneU_some (B : Nat) (x : Addr) (n c : Nat) (fs : Nat → Int) (w : World) (h : Nums w B (some x) n fs) (hB : B ≤ w.heap.size) (hn : n ≤ 65536) :
    Calls Try.prog 8 #[.slice (some x) n c] w fun e w' => e = .returned (.slice (some ⟨w.heap.size, 0, none⟩) n n) ∧ FillcloneU w' w.heap.size n n fs ∧ w'.heap.size = w.heap.size + 1 ∧ Below w.heap.size w w' := by
  have hmk := fun w => run_make_row' (P := Try.prog) 23 30 (.int .u64 0) 8 Try.underlying23 info30 rfl .i64 .i64 n (by omega) (by omega) w
  have q : ∀ (w : World) (a : Option Addr) (n c : Nat), (binOp .eql 23 (.slice a n c) (.slice none 0 0)).run Try.prog w = .ok (.bool a.isNone) w := fun w a n c => Lib.run_eql_slice_nil w _ _ a n c 0 0 Try.underlying23
  go_enter Try.func8, Try.ntmps8
  go_wp2
  clear hmk q
  have hst := st_float
  go_loopw [4] (fun i wr => RelcloneU w n fs i wr) (fun i _ => n - (intOf i).toNat)
  case atStart => exact ⟨0, Nat.zero_le _, rfl, fillcloneU_made w n fs, by simp, (Below.refl _ _).alloc (Nat.le_refl _) _⟩
  case round =>
    obtain ⟨k, hk, rfl, F, hsz, hnx⟩ := hrel
    by_cases hlt : k < n
    · obtain ⟨b, o, hix, hcx, hb⟩ := h.idx hlt c
      have hc2 : wr.cell? ⟨b, o, none⟩ = some (.int .u64 (fs k)) := (hnx.cell (p := ⟨b, o, none⟩) (by show b < _; omega)).trans hcx
      have hcm := F.cell k hlt
      rw [if_neg (by omega)] at hcm
      have hfm := F.frozen k hlt
      have F2 := F.store hlt
      have B2 : Below w.heap.size w (wr.setCell ⟨w.heap.size, k, none⟩ (.int .u64 (fs k))) := hnx.setCell (Nat.le_refl _) _
      have HS : Hid (wr.heap.size = w.heap.size + 1) := hsz
      clear h hcx F hnx hsz
      go_wp2
      go_roundw
      case rel => exact ⟨k + 1, by omega, by go_num, F2, by simpa [World.setCell] using HS.out, B2⟩
      case measure => simp [intOf]; omega
    · obtain rfl : n = k := by omega
      have HS : Hid (wr.heap.size = w.heap.size + 1) := hsz
      clear h hsz
      go_wp2
      go_ret
      exact ⟨rfl, F, HS.out, hnx⟩

set_option maxHeartbeats 400000 in
theorem cloneF_nil (n c : Nat) (w : World) : Calls Try.prog 7 #[.slice none n c] w fun e w' => e = .returned (.slice none 0 0) ∧ w = w' := by
  have q : ∀ (w : World) (a : Option Addr) (n c : Nat), (binOp .eql 22 (.slice a n c) (.slice none 0 0)).run Try.prog w = .ok (.bool a.isNone) w := fun w a n c => Lib.run_eql_slice_nil w _ _ a n c 0 0 Try.underlying22
  go_enter Try.func7, Try.ntmps7
  go_wp2
  go_ret
  exact ⟨rfl, rfl⟩

/-- What metricsCloneF hands back. -/
def ClonePost (w : World) (n : Nat) (fs : Nat → Nat) (e : Ending) (w' : World) : Prop :=
  ∃ a c, e = .returned (.slice a n c) ∧ Flts w' w'.heap.size a n fs ∧ (∀ x, a = some x → w.heap.size ≤ x.block) ∧ Below w.heap.size w w'
theorem cloneF_any (B : Nat) (a : Option Addr) (n c : Nat) (fs : Nat → Nat) (w : World) (h : Flts w B a n fs) (hB : B ≤ w.heap.size) (hn : n ≤ 65536) :
    Calls Try.prog 7 #[.slice a n c] w fun e w' => ClonePost w n fs e w' := by
  cases a with
  | none =>
    have h0 : n = 0 := by
      rcases Nat.eq_zero_or_pos n with h0 | h0
      · exact h0
      · obtain ⟨b, off, ha, _⟩ := h.cells h0; cases ha
    subst h0
    refine (cloneF_nil 0 c w).mono ?_
    rintro e w' ⟨rfl, rfl⟩
    exact ⟨none, 0, rfl, ⟨fun h0 => by omega, Nat.zero_le _⟩, (fun x hx => by cases hx), Below.refl _ _⟩
  | some x =>
    refine (cloneF_some B x n c fs w h hB hn).mono ?_
    rintro e w' ⟨rfl, F, hs, hb⟩
    refine ⟨_, _, rfl, ⟨fun _ => ⟨w.heap.size, 0, rfl, by omega, fun j hj => ?_⟩, h.len_le⟩, (fun x hx => by cases hx; exact Nat.le_refl _), hb⟩
    have := F.cell j hj
    rw [if_pos hj] at this
    rw [Nat.zero_add]; exact this
/-- What metricsCloneU hands back, of a slice with an element. -/
def CloneUPost (w : World) (n : Nat) (cs : Nat → Int) (e : Ending) (w' : World) : Prop :=
  e = .returned (.slice (some ⟨w.heap.size, 0, none⟩) n n) ∧ Row w' w.heap.size n cs ∧ Below w.heap.size w w'
theorem cloneU_any (B : Nat) (a : Option Addr) (n c : Nat) (cs : Nat → Int) (w : World) (h : Nums w B a n cs) (h0 : 0 < n) (hB : B ≤ w.heap.size) (hn : n ≤ 65536) :
    Calls Try.prog 8 #[.slice a n c] w fun e w' => CloneUPost w n cs e w' := by
  cases a with
  | none => obtain ⟨b, off, ha, _⟩ := h.cells h0; cases ha
  | some x =>
    refine (cloneU_some B x n c cs w h hB hn).mono ?_
    rintro e w' ⟨rfl, F, hs, hb⟩
    refine ⟨rfl, ⟨fun j hj => ?_, F.frozen, by omega⟩, hb⟩
    have := F.cell j hj
    rw [if_pos hj] at this
    exact this

end Go.Proofs.Qxb6627541a
