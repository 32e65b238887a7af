import Derived.Test.Qxb6627541aLoops
namespace Go.Proofs.Qxb6627541a
open Go.RowKit

/-- What Observe leaves, told with the other rows of counts: they stand. -/
def ObsPost2 (w : World) (B C hb G : Nat) (ab : Option Addr) (n cb cc : Nat) (bs : Nat → Nat) (cs : Nat → Int) (s v : Nat) (e : Ending) (w' : World) : Prop :=
  e = .returned (.tuple #[]) ∧ ∃ r, Hist w' B C hb G ab n cb cc bs (obs cs (bkt bs v n)) r ∧ FAdd s v r ∧ Below B w w' ∧ ∀ G2 n2 zs, G2 ≠ hb → G2 ≠ G → Row w G2 n2 zs → Row w' G2 n2 zs

theorem row_keep {w : World} {hb G G2 n2 : Nat} {zs : Nat → Int} (h1 : G2 ≠ hb) (h2 : G2 ≠ G) (h : Row w G2 n2 zs) (i k r : Nat) (u : Value) : Row (((w.setCell ⟨G, i, none⟩ u).drewN k).setCell ⟨hb, 2, none⟩ (.float .f64 r)) G2 n2 zs :=
  ((h.setCell (a := ⟨G, i, none⟩) h2 u).drewN k).setCell (a := ⟨hb, 2, none⟩) h1 _

set_option maxHeartbeats 1000000 in
theorem observe2_any {w : World} {B C hb G : Nat} {ab : Option Addr} {n cb cc : Nat} {bs : Nat → Nat} {cs : Nat → Int} {s : Nat} (h : Hist w B C hb G ab n cb cc bs cs s) (v : Nat) (hn : n ≤ 65536) :
    Calls Try.prog 11 #[.pointer (some ⟨hb, 0, none⟩), .float .f64 v] w fun e w' => ObsPost2 w B C hb G ab n cb cc bs cs s v e w' := by
  have c0 := h.c0
  have c1 := h.c1
  have c2 := h.c2
  have f2 := h.f2
  have hne := h.ne
  have hst := st_float
  have hadd := run_add s v
  go_enter Try.func11, Try.ntmps11
  go_wp2
  go_loop [4, 17] (fun i t => FRel n bs v i t) (fun _ t => n - (intOf t).toNat)
  case atStart => exact ⟨0, Nat.zero_le _, rfl, rfl, fun j hj => by omega⟩
  case round =>
    obtain ⟨k, hk, rfl, rfl, hall⟩ := hrel
    have HA : Hid (∀ j, j < k → ltF (bs j) v = true) := hall
    clear hall
    by_cases hlt : k < n
    · obtain ⟨b, o, hix, hcx, _⟩ := (h.bounds.flts (by unfold maxLen; omega)).idx hlt cb
      cases hl : (FloatKind.f64.format.order (bs k) v == some .lt)
      · have hb0 : bkt bs v n = k := bkt_of hk HA.out (fun _ => hl)
        have hki : k < n + 1 := by omega
        have hcm := h.row.cell k hki
        have hfm := h.row.frozen k hki
        have HB : Hid (bkt bs v n = k) := hb0
        have R := fun m r => h.obs hki m r
        clear h hb0
        go_wp2
        go_end0
        exact ⟨rfl, _, by rw [HB.out]; exact (R _ _).1, addR_ok _ _ _, (R _ _).2, fun G2 n2 zs h1 h2 h3 => row_keep h1 h2 h3 _ _ _ _⟩
      · clear h
        go_wp2
        go_round
        case rel =>
          refine ⟨k + 1, by omega, by go_num, rfl, fun j hj => ?_⟩
          by_cases e : j = k
          · subst e; exact hl
          · exact HA.out j (by omega)
        case measure => simp [intOf]; omega
    · obtain rfl : n = k := by omega
      have HB : Hid (bkt bs v n = n) := bkt_of (Nat.le_refl _) HA.out (fun h => by omega)
      have hki : n < n + 1 := by omega
      have hcm := h.row.cell n hki
      have hfm := h.row.frozen n hki
      have R := fun m r => h.obs hki m r
      clear h
      go_wp2
      go_end0
      exact ⟨rfl, _, by rw [HB.out]; exact (R _ _).1, addR_ok _ _ _, (R _ _).2, fun G2 n2 zs h1 h2 h3 => row_keep h1 h2 h3 _ _ _ _⟩

/-- The loop that works out what is wanted: counts in block G, the sum in t. -/
def WRel (w0 : World) (G n : Nat) (bs : Nat → Nat) (cs : Nat → Int) (s : Nat) (xs : Nat → Nat) (M : Nat) (t i : Value) (wr : World) : Prop :=
  ∃ p, p ≤ M ∧ i = .int .i64 p ∧ ∃ s1, t = .float .f64 s1 ∧ Row wr G (n + 1) (runC cs bs n xs 0 p) ∧ FSum xs 0 p s s1 ∧ Below G w0 wr
theorem wrel_start {w : World} {G n : Nat} {bs : Nat → Nat} {cs : Nat → Int} (R : Row w G (n + 1) cs) (s : Nat) (xs : Nat → Nat) (M : Nat) : WRel w G n bs cs s xs M (.float .f64 s) (.int .i64 0) w :=
  ⟨0, Nat.zero_le _, rfl, s, rfl, R, rfl, Below.refl _ _⟩
theorem wrel_next {w0 wr : World} {G n : Nat} {bs : Nat → Nat} {cs : Nat → Int} {s : Nat} {xs : Nat → Nat} {M p s1 q : Nat} (hp : p < M) (R : Row wr G (n + 1) (runC cs bs n xs 0 p)) (S : FSum xs 0 p s s1) (B : Below G w0 wr) (hq : bkt bs (xs p) n = q) {r : Nat} (hr : FAdd s1 (xs p) r) (k : Nat) :
    WRel w0 G n bs cs s xs M (.float .f64 r) (.int .i64 ((p : Int) + 1)) ((wr.setCell ⟨G, q, none⟩ (.int .u64 (IntKind.u64.wrap (runC cs bs n xs 0 p q + 1)))).drewN k) := by
  have hb := bkt_le bs (xs p) n
  refine ⟨p + 1, hp, by go_num, r, rfl, ?_, ⟨s1, S, by rw [Nat.zero_add]; exact hr⟩, below_drewN (B.setCell (p := ⟨G, q, none⟩) (Nat.le_refl _) _) _⟩
  show Row _ G (n + 1) (obs (runC cs bs n xs 0 p) (bkt bs (xs (0 + p)) n))
  rw [Nat.zero_add, hq]
  exact (R.store (by omega)).drewN k

/-- The observing loop beside the row of what is wanted. -/
def LRel2 (w0 : World) (B C hb G : Nat) (ab : Option Addr) (n cb cc : Nat) (bs : Nat → Nat) (cs : Nat → Int) (s : Nat) (xs : Nat → Nat) (a M G2 n2 : Nat) (zs : Nat → Int) (i : Value) (wr : World) : Prop :=
  LRel w0 B C hb G ab n cb cc bs cs s xs a M i wr ∧ Row wr G2 n2 zs

end Go.Proofs.Qxb6627541a
