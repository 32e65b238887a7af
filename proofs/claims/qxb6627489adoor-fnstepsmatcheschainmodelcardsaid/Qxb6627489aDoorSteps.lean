import Derived.Test.Qxb6627489aDoorText
namespace Go.Proofs.Qxb6627489aDoor
open Go.RowKit

theorem info9 : (Tryd.prog.info? 9).map (fun i => (i.zero, i.size, i.bytes)) = some (some (.string ByteArray.empty), 1, 16) := by kernel_rfl

theorem len_L (B n f L : Nat) (hL : n = f + L) (hn : n ≤ 65536) (ss : Nat → ByteArray) (zs : Nat → Int) (w : World) (h : Chain w B n ss zs) : Calls Tryd.prog 12 #[.agg #[.pointer (lastOf B n), .int .i64 f]] w fun e w' => e = .returned (.int .i64 (L : Int)) ∧ Below w.heap.size w w' := by
  refine (len_any B n f (by omega) hn ss zs w h).mono ?_
  rintro e w' ⟨rfl, hb⟩
  exact ⟨by rw [show (n : Int) - (f : Int) = (L : Int) from by omega], hb⟩

/-- The filling loop: from the end down to k the texts stand. -/
structure Filled (w : World) (G L k f : Nat) (ss : Nat → ByteArray) (zs : Nat → Int) : Prop where
  cell : ∀ j, j < L → w.cell? ⟨G, j, none⟩ = some (.string (if k ≤ j then txt (ss (f + j)) (zs (f + j)) else ByteArray.empty))
  frozen : ∀ j, j < L → w.frozen? ⟨G, j, none⟩ = false
  lt : G < w.heap.size

theorem Filled.below {w w' : World} {G L k f : Nat} {ss : Nat → ByteArray} {zs : Nat → Int} (h : Filled w G L k f ss zs) (hb : Below w.heap.size w w') : Filled w' G L k f ss zs :=
  ⟨fun j hj => (hb.cell (p := ⟨G, j, none⟩) h.lt).trans (h.cell j hj), fun j hj => (hb.frozen (p := ⟨G, j, none⟩) h.lt).trans (h.frozen j hj), Nat.lt_of_lt_of_le h.lt hb.size⟩

theorem Filled.store {w : World} {G L k f : Nat} {ss : Nat → ByteArray} {zs : Nat → Int} (h : Filled w G L (k + 1) f ss zs) (hk : k < L) : Filled (w.setCell ⟨G, k, none⟩ (.string (txt (ss (f + k)) (zs (f + k))))) G L k f ss zs := by
  refine ⟨fun j hj => ?_, fun j hj => by rw [World.frozen?_setCell]; exact h.frozen j hj, by simpa [World.setCell] using h.lt⟩
  by_cases e : j = k
  · subst e
    rw [World.cell?_setCell_same w _ _ (h.cell j hj), if_pos (Nat.le_refl _)]
  · rw [World.cell?_setCell_other _ _ _ _ (by intro e'; cases e'; exact e rfl), h.cell j hj]
    by_cases c : k ≤ j
    · rw [if_pos c, if_pos (by omega)]
    · rw [if_neg c, if_neg (by omega)]

theorem filled_made (w : World) (L f : Nat) (ss : Nat → ByteArray) (zs : Nat → Int) : Filled (w.alloc (.cells (madeCells #[.string ByteArray.empty] L) 9)) w.heap.size L L f ss zs := by
  refine ⟨fun j hj => ?_, fun j hj => ?_, by simp⟩
  · rw [if_neg (by omega)]
    rw [World.cell?_alloc_new]
    simp [madeCells, hj, Nat.mod_one]
  · exact World.frozen?_alloc_new _ _ _ _

def GRel (w : World) (B n G L f : Nat) (ss : Nat → ByteArray) (zs : Nat → Int) (s i : Value) (wr : World) : Prop :=
  ∃ k : Nat, k ≤ L ∧ i = .int .i64 ((k : Int) - 1) ∧ s = .pointer (lastOf B (f + k)) ∧ Filled wr G L k f ss zs ∧ Chain wr B n ss zs ∧ Tab wr ∧ Below w.heap.size w wr

set_option maxHeartbeats 1000000 in
theorem steps_some (B n f L : Nat) (hL : n = f + L) (hL0 : 0 < L) (hn : n ≤ 65536) (ss : Nat → ByteArray) (zs : Nat → Int) (hz : ∀ j, j < n → zs j ≤ 9223372036854775807) (w : World) (h : Chain w B n ss zs) (ht : Tab w) :
    Calls Tryd.prog 9 #[.agg #[.pointer (lastOf B n), .int .i64 f]] w fun e w' => ∃ G, e = .returned (.slice (some ⟨G, 0, none⟩) L L) ∧ w.heap.size ≤ G ∧ Filled w' G L 0 f ss zs ∧ Below w.heap.size w w' := by
  have hlen := fun w h => len_L B n f L hL hn ss zs w h
  obtain ⟨la, hla⟩ : ∃ la, lastOf B n = la := ⟨_, rfl⟩
  rw [hla] at hlen ⊢
  have HA : Hid (lastOf B n = la) := hla
  have HL : Hid (n = f + L) := hL
  have hCG : B + n ≤ w.heap.size := h.lt
  have hLb : L ≤ 65536 := by omega
  clear hla
  have hmk := fun w => run_make_row' (P := Tryd.prog) 22 9 (.string ByteArray.empty) 16 Tryd.underlying22 info9 rfl .i64 .i64 L (by omega) (by omega) w
  have hLi : ((L : Int) == 0) = false := by simp; omega
  clear hL
  go_enter Tryd.func9, Tryd.ntmps9
  go_wp2_with fail
  refine (hlen _ (h.below ((Below.refl _ _).alloc (Nat.le_refl _) _))).mono ?_
  rintro e w1 ⟨rfl, hb⟩
  have B1 : Below w.heap.size w w1 := ((Below.refl _ _).alloc (Nat.le_refl _) _).trans (hb.mono (by simp))
  have hc0 : w1.cell? ⟨w.heap.size, 0, none⟩ = some (.pointer la) := (hb.cell (p := ⟨w.heap.size, 0, none⟩) (by simp)).trans (by simp)
  have hc1 : w1.cell? ⟨w.heap.size, 1, none⟩ = some (.int .i64 f) := (hb.cell (p := ⟨w.heap.size, 1, none⟩) (by simp)).trans (by simp)
  have hs1 : w.heap.size < w1.heap.size := by have := hb.size; simp at this; omega
  clear hb
  go_wp2_with fail
  refine (hlen _ (h.below B1)).mono ?_
  rintro e w2 ⟨rfl, hb⟩
  have B2 : Below w.heap.size w w2 := B1.trans (hb.mono B1.size)
  have hd0 : w2.cell? ⟨w.heap.size, 0, none⟩ = some (.pointer la) := (hb.cell (p := ⟨w.heap.size, 0, none⟩) hs1).trans hc0
  have hs2 : w.heap.size < w2.heap.size := Nat.lt_of_lt_of_le hs1 hb.size
  clear hb hc0 hc1 hs1 B1
  go_wp2_with fail
  have B3 : Below w.heap.size w (w2.alloc (.cells (madeCells #[.string ByteArray.empty] L) 9)) := B2.alloc (by omega) _
  have F3 := filled_made w2 L f ss zs
  have C3 := h.below B3
  have T3 := ht.below B3
  clear hmk hlen hd0
  go_loopw [4, 5] (fun s i wr => GRel w B n w2.heap.size L f ss zs s i wr) (fun _ i _ => (intOf i + 1).toNat)
  case atStart => exact ⟨L, Nat.le_refl _, by go_num, by rw [← HA.out, HL.out], F3, C3, T3, B3⟩
  case round =>
    clear F3 C3 T3 B3
    obtain ⟨k, hk, rfl, rfl, F, C, T, Bw⟩ := hrel
    cases k with
    | zero =>
      go_wp2_with fail
      go_ret
      exact ⟨w2.heap.size, rfl, by omega, F, Bw⟩
    | succ m =>
      have hm : m < L := by omega
      have hmn : f + m < n := by have := HL.out; omega
      have hix : ((m + 1 : Nat) : Int) - 1 = (m : Int) := by omega
      have hup := C.up (f + m) hmn
      have hT := text_any B n (f + m) ss zs wr C hmn T (hz _ hmn)
      rw [hix, show lastOf B (f + (m + 1)) = some ⟨B + (f + m), 0, none⟩ from rfl]
      clear hix
      go_wp2_with fail
      refine hT.mono ?_
      rintro e wt ⟨rfl, hb⟩
      have F2 := F.below hb
      have C2 := C.below hb
      have T2 := T.below hb
      have Bt := Bw.trans (hb.mono Bw.size)
      have hcm := F2.cell m hm
      have hfm := F2.frozen m hm
      have hup2 := C2.up (f + m) hmn
      have F4 := F2.store hm
      have hne : B + (f + m) ≠ w2.heap.size := by have := hCG; omega
      have hsz : w2.heap.size < wt.heap.size := F2.lt
      have B4 : Below w.heap.size w (wt.setCell ⟨w2.heap.size, m, none⟩ (.string (txt (ss (f + m)) (zs (f + m))))) := Bt.setCell (by show w.heap.size ≤ w2.heap.size; omega) _
      have C4 : Chain (wt.setCell ⟨w2.heap.size, m, none⟩ (.string (txt (ss (f + m)) (zs (f + m))))) B n ss zs := h.below B4
      have T4 : Tab (wt.setCell ⟨w2.heap.size, m, none⟩ (.string (txt (ss (f + m)) (zs (f + m))))) := ht.below B4
      clear F C T Bw hb hT F2 hup C2 T2 Bt
      go_wp2_with fail
      go_roundw
      case rel => exact ⟨m, by omega, by go_num, rfl, F4, C4, T4, B4⟩
      case measure => simp [intOf]

end Go.Proofs.Qxb6627489aDoor
