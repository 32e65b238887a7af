import Derived.Test.Qxb6627541aObserve
namespace Go.Proofs.Qxb6627541a
open Go.RowKit

theorem runC_append (cs : Nat → Int) (bs : Nat → Nat) (n : Nat) (xs : Nat → Nat) (a k : Nat) : ∀ m, runC (runC cs bs n xs a k) bs n xs (a + k) m = runC cs bs n xs a (k + m)
  | 0 => rfl
  | m + 1 => by
    show obs (runC (runC cs bs n xs a k) bs n xs (a + k) m) (bkt bs (xs (a + k + m)) n) = obs (runC cs bs n xs a (k + m)) (bkt bs (xs (a + (k + m))) n)
    rw [runC_append cs bs n xs a k m, Nat.add_assoc]
/-- The counts of the whole are those of the first part and those of the second, from nought. -/
theorem split_sum {cs : Nat → Int} {bs : Nat → Nat} {n : Nat} {xs : Nat → Nat} {k m j : Nat} (h : 0 ≤ cs j ∧ cs j < 18446744073709551616) :
    IntKind.u64.wrap (runC cs bs n xs 0 k j + (cnt bs n xs k m j : Int)) = runC cs bs n xs 0 (k + m) j := by
  rw [runC_eq h, runC_eq h, cnt_add, IntKind.wrap_u64, Nat.zero_add]
  omega
theorem fresh_eq {bs : Nat → Nat} {n : Nat} {xs : Nat → Nat} {k m j : Nat} (hm : m ≤ 4096) : runC (fun _ => 0) bs n xs k m j = (cnt bs n xs k m j : Int) := by
  have := cnt_le bs n xs k j m
  rw [runC_eq (by simp)]
  omega

theorem Flts.blk {w : World} {B : Nat} {a : Option Addr} {n : Nat} {fs : Nat → Nat} (h : Flts w B a n fs) (h0 : 0 < n) {b off : Nat} (ha : a = some ⟨b, off, none⟩) : b < B := by
  obtain ⟨b', off', ha', hl, _⟩ := h.cells h0
  rw [ha] at ha'
  cases ha'
  exact hl

/-- A histogram just made. -/
theorem hist_mk {w : World} {B G : Nat} {ab : Option Addr} {n cb cc : Nat} {bs : Nat → Nat} {cs : Nat → Int} (s : Nat) (row : Row w G (n + 1) cs) (F : Flts w w.heap.size ab n bs) (hx : 0 < n → ∀ b off, ab = some ⟨b, off, none⟩ → b ≠ G) (hB : B ≤ G) :
    Hist (w.alloc (.cells #[.slice ab n cb, .slice (some ⟨G, 0, none⟩) (n + 1) cc, .float .f64 s] 39)) B (w.heap.size + 1) w.heap.size G ab n cb cc bs cs s := by
  have hb := (Below.refl w.heap.size w).alloc (Nat.le_refl _) (.cells #[.slice ab n cb, .slice (some ⟨G, 0, none⟩) (n + 1) cc, .float .f64 s] 39)
  have hlt := row.lt
  refine ⟨by rw [World.cell?_alloc_new]; rfl, by rw [World.cell?_alloc_new]; rfl, by rw [World.cell?_alloc_new]; rfl, World.frozen?_alloc_new _ _ _ _, row.below hb hlt, fun h0 => ?_, by omega, hB, by omega, by omega, by omega, by simp⟩
  obtain ⟨b, off, ha, hl, hc⟩ := F.cells h0
  have hne := hx h0 _ _ ha
  exact ⟨b, off, ha, ⟨by omega, by omega, hne⟩, fun j hj => (hb.cell (p := ⟨b, off + j, none⟩) hl).trans (hc j hj)⟩

/-- An observing loop: the values from xs a up to xs (p - 1) have been observed. -/
def LRel (w0 : World) (B C hb G : Nat) (ab : Option Addr) (n cb cc : Nat) (bs : Nat → Nat) (cs : Nat → Int) (s : Nat) (xs : Nat → Nat) (a M : Nat) (i : Value) (wr : World) : Prop :=
  ∃ p, a ≤ p ∧ p ≤ M ∧ i = .int .i64 p ∧ ∃ s1, Hist wr B C hb G ab n cb cc bs (runC cs bs n xs a (p - a)) s1 ∧ FSum xs a (p - a) s s1 ∧ Below B w0 wr
theorem lrel_start {w : World} {B C hb G : Nat} {ab : Option Addr} {n cb cc : Nat} {bs : Nat → Nat} {cs : Nat → Int} {s : Nat} (h : Hist w B C hb G ab n cb cc bs cs s) (xs : Nat → Nat) {a M : Nat} (hM : a ≤ M) {i : Value} (hi : i = .int .i64 a) :
    LRel w B C hb G ab n cb cc bs cs s xs a M i w := ⟨a, Nat.le_refl _, hM, hi, s, by rw [Nat.sub_self]; exact h, by rw [Nat.sub_self]; exact rfl, Below.refl _ _⟩
theorem lrel_next {w0 wr wt : World} {B C hb G : Nat} {ab : Option Addr} {n cb cc : Nat} {bs : Nat → Nat} {cs : Nat → Int} {s s1 r : Nat} {xs : Nat → Nat} {a M p : Nat} (ha : a ≤ p) (hp : p < M)
    (H : Hist wt B C hb G ab n cb cc bs (obs (runC cs bs n xs a (p - a)) (bkt bs (xs p) n)) r) (S : FSum xs a (p - a) s s1) (FA : FAdd s1 (xs p) r) (B1 : Below B w0 wr) (B2 : Below B wr wt) :
    LRel w0 B C hb G ab n cb cc bs cs s xs a M (.int .i64 ((p : Int) + 1)) wt := by
  have e : p + 1 - a = (p - a) + 1 := by omega
  have e2 : a + (p - a) = p := by omega
  refine ⟨p + 1, by omega, hp, by go_num, r, ?_, ?_, B1.trans B2⟩
  · rw [e]
    show Hist wt B C hb G ab n cb cc bs (obs (runC cs bs n xs a (p - a)) (bkt bs (xs (a + (p - a))) n)) r
    rw [e2]; exact H
  · rw [e]
    exact ⟨s1, S, by rw [e2]; exact FA⟩

/-- The comparing loops. -/
def ARel (w : World) (N : Nat) (i : Value) (wr : World) : Prop := ∃ k : Nat, k ≤ N ∧ i = .int .i64 k ∧ ∃ m, wr = w.drewN m
/-- The summing loop. -/
def TotRel (w : World) (bs : Nat → Nat) (n : Nat) (xs : Nat → Nat) (a k : Nat) (t i : Value) (wr : World) : Prop := ∃ q : Nat, q ≤ n + 1 ∧ i = .int .i64 q ∧ t = .int .u64 ((tot bs n xs a k q : Nat) : Int) ∧ ∃ m, wr = w.drewN m
/-- The loop that counts what lies above. -/
def AbRel (w : World) (bs : Nat → Nat) (n : Nat) (xs : Nat → Nat) (a M : Nat) (t i : Value) (wr : World) : Prop := ∃ p : Nat, a ≤ p ∧ p ≤ M ∧ i = .int .i64 p ∧ t = .int .i64 ((cnt bs n xs a (p - a) n : Nat) : Int) ∧ ∃ m, wr = w.drewN m
theorem cnt_next {bs : Nat → Nat} {n : Nat} {xs : Nat → Nat} {a p j : Nat} (ha : a ≤ p) : cnt bs n xs a (p + 1 - a) j = cnt bs n xs a (p - a) j + (if j = bkt bs (xs p) n then 1 else 0) := by
  have e : p + 1 - a = (p - a) + 1 := by omega
  have e2 : a + (p - a) = p := by omega
  rw [e]
  show cnt bs n xs a (p - a) j + (if j = bkt bs (xs (a + (p - a))) n then 1 else 0) = _
  rw [e2]

end Go.Proofs.Qxb6627541a
