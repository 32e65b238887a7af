import Derived.Test.Qxb6627541aClone
namespace Go.Proofs.Qxb6627541a
open Go.RowKit

/-- The search loop of Observe. -/
def FRel (n : Nat) (bs : Nat → Nat) (v : Nat) (i t : Value) : Prop := ∃ k : Nat, k ≤ n ∧ t = .int .i64 k ∧ i = .int .i64 n ∧ ∀ j, j < k → ltF (bs j) v = true

theorem Hist.obs {w : World} {B C hb G : Nat} {ab : Option Addr} {n cb cc : Nat} {bs : Nat → Nat} {cs : Nat → Int} {s : Nat} (h : Hist w B C hb G ab n cb cc bs cs s) {i : Nat} (hi : i < n + 1) (k r : Nat) :
    Hist (((w.setCell ⟨G, i, none⟩ (.int .u64 (IntKind.u64.wrap (cs i + 1)))).drewN k).setCell ⟨hb, 2, none⟩ (.float .f64 r)) B C hb G ab n cb cc bs (obs cs i) r ∧
    Below B w (((w.setCell ⟨G, i, none⟩ (.int .u64 (IntKind.u64.wrap (cs i + 1)))).drewN k).setCell ⟨hb, 2, none⟩ (.float .f64 r)) := by
  have hne := h.ne
  have o1 : ∀ j, ((w.setCell ⟨G, i, none⟩ (.int .u64 (IntKind.u64.wrap (cs i + 1)))).drewN k).cell? ⟨hb, j, none⟩ = w.cell? ⟨hb, j, none⟩ := fun j => by
    rw [World.cell?_drewN, World.cell?_setCell_other _ _ _ _ (by intro e; have h2 := congrArg Addr.block e; dsimp only at h2; omega)]
  have b1 : Below B w (((w.setCell ⟨G, i, none⟩ (.int .u64 (IntKind.u64.wrap (cs i + 1)))).drewN k).setCell ⟨hb, 2, none⟩ (.float .f64 r)) :=
    (below_drewN ((Below.refl B w).setCell (p := ⟨G, i, none⟩) h.hG _) k).setCell (p := ⟨hb, 2, none⟩) h.hB _
  refine ⟨⟨?_, ?_, ?_, ?_, ?_, ?_, h.hB, h.hG, h.ne, h.lt, h.ltG, ?_⟩, b1⟩
  · rw [World.cell?_setCell_other _ _ _ _ (by intro e; have h2 := congrArg Addr.off e; dsimp only at h2; omega), o1]; exact h.c0
  · rw [World.cell?_setCell_other _ _ _ _ (by intro e; have h2 := congrArg Addr.off e; dsimp only at h2; omega), o1]; exact h.c1
  · exact World.cell?_setCell_same _ _ _ ((o1 2).trans h.c2)
  · rw [World.frozen?_setCell, World.frozen?_drewN, World.frozen?_setCell]; exact h.f2
  · exact ((h.row.store hi).drewN k).setCell (a := ⟨hb, 2, none⟩) (fun e => hne e.symm) _
  · intro h0
    obtain ⟨b, off, ha, hc, hx⟩ := h.bounds h0
    refine ⟨b, off, ha, hc, fun j hj => ?_⟩
    rw [World.cell?_setCell_other _ _ _ _ (by intro e; have h2 := congrArg Addr.block e; dsimp only at h2; omega), World.cell?_drewN, World.cell?_setCell_other _ _ _ _ (by intro e; have h2 := congrArg Addr.block e; dsimp only at h2; omega)]
    exact hx j hj
  · have := h.ltC
    simpa [World.setCell] using this

/-- What Observe leaves. -/
def ObsPost (w : World) (B C hb G : Nat) (ab : Option Addr) (n cb cc : Nat) (bs : Nat → Nat) (cs : Nat → Int) (s v : Nat) (e : Ending) (w' : World) : Prop :=
  e = .returned (.tuple #[]) ∧ ∃ r, Hist w' B C hb G ab n cb cc bs (obs cs (bkt bs v n)) r ∧ FAdd s v r ∧ Below B w w'

set_option maxHeartbeats 1000000 in
theorem observe_any {w : World} {B C hb G : Nat} {ab : Option Addr} {n cb cc : Nat} {bs : Nat → Nat} {cs : Nat → Int} {s : Nat} (h : Hist w B C hb G ab n cb cc bs cs s) (v : Nat) (hn : n ≤ 65536) :
    Calls Try.prog 11 #[.pointer (some ⟨hb, 0, none⟩), .float .f64 v] w fun e w' => ObsPost w B C hb G ab n cb cc bs cs s v e w' := by
  have c0 := h.c0
  have c1 := h.c1
  have c2 := h.c2
  have f2 := h.f2
  have hne := h.ne
  have hst := st_float
  have hadd := run_add s v
  go_enter Try.func11, Try.ntmps11
  go_wp2
  go_loop [4, 17] (fun i t => FRel n bs v i t) (fun _ t => n - (intOf t).toNat)
  case atStart => exact ⟨0, Nat.zero_le _, rfl, rfl, fun j hj => by omega⟩
  case round =>
    obtain ⟨k, hk, rfl, rfl, hall⟩ := hrel
    have HA : Hid (∀ j, j < k → ltF (bs j) v = true) := hall
    clear hall
    by_cases hlt : k < n
    · obtain ⟨b, o, hix, hcx, _⟩ := (h.bounds.flts (by unfold maxLen; omega)).idx hlt cb
      cases hl : (FloatKind.f64.format.order (bs k) v == some .lt)
      · have hb0 : bkt bs v n = k := bkt_of hk HA.out (fun _ => hl)
        have hki : k < n + 1 := by omega
        have hcm := h.row.cell k hki
        have hfm := h.row.frozen k hki
        have HB : Hid (bkt bs v n = k) := hb0
        have R := fun m r => h.obs hki m r
        clear h hb0
        go_wp2
        go_end0
        exact ⟨rfl, _, by rw [HB.out]; exact (R _ _).1, addR_ok _ _ _, (R _ _).2⟩
      · clear h
        go_wp2
        go_round
        case rel =>
          refine ⟨k + 1, by omega, by go_num, rfl, fun j hj => ?_⟩
          by_cases e : j = k
          · subst e; exact hl
          · exact HA.out j (by omega)
        case measure => simp [intOf]; omega
    · obtain rfl : n = k := by omega
      have HB : Hid (bkt bs v n = n) := bkt_of (Nat.le_refl _) HA.out (fun h => by omega)
      have hki : n < n + 1 := by omega
      have hcm := h.row.cell n hki
      have hfm := h.row.frozen n hki
      have R := fun m r => h.obs hki m r
      clear h
      go_wp2
      go_end0
      exact ⟨rfl, _, by rw [HB.out]; exact (R _ _).1, addR_ok _ _ _, (R _ _).2⟩

end Go.Proofs.Qxb6627541a
