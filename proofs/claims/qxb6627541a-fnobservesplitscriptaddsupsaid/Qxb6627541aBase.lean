import Derived.Test.Qxb6627541aRows
import Derived.Test.Qxb6627541aPlain
import Derived.WalkKit
import Derived.WalkSpells
import Derived.WalkLawsBesides
import Derived.Laws.FloatArith
import Derived.Deep.QuietTactic
import Derived.BigQuiet
import Derived.RegionTactic
import Derived.Deep.OwnRows
import Derived.WalkSmall
namespace Go.Proofs.Qxb6627541a
open Go.RowKit

/-! ### a sum of floats at the operation -/
/-- The bits that '+' gives in world w. -/
def addR (x y : Nat) (w : World) : Nat :=
  match FloatKind.f64.format.add x y with
  | some r => r
  | none => Question.cut (.nanBits .f64 x y) (w.tape w.drawn (.nanBits .f64 x y))
/-- How often it draws. -/
def addK (x y : Nat) : Nat := if (FloatKind.f64.format.add x y).isSome then 0 else 1
theorem nan_cut (x y t : Nat) : nanF (Question.cut (.nanBits .f64 x y) t) = true := by
  show (Ieee.Format.read Ieee.double ((t % 2) * 2 ^ 63 + 0x7ff0000000000000 + 1 + (t / 2) % (2 ^ 52 - 1))).isNaN = true
  have e1 : Ieee.double.signWeight = 2 ^ 63 := by decide
  have e2 : Ieee.double.binade = 2 ^ 52 := by decide
  have e3 : Ieee.double.infRung = 0x7ff0000000000000 := by decide
  unfold Ieee.Format.read
  simp only [e1, e2, e3]
  have hm : ((t % 2) * 2 ^ 63 + 0x7ff0000000000000 + 1 + (t / 2) % (2 ^ 52 - 1)) % 2 ^ 63 = 0x7ff0000000000000 + 1 + (t / 2) % (2 ^ 52 - 1) := by omega
  rw [hm, if_neg (by omega), if_neg (by omega)]
  split
  · omega
  · rfl
theorem addR_ok (x y : Nat) (w : World) : FAdd x y (addR x y w) := by
  unfold addR
  cases h : FloatKind.f64.format.add x y with
  | some r => exact .inl h
  | none => exact .inr ⟨h, nan_cut x y _⟩
theorem run_add (x y : Nat) (w : World) : (binOp .add 24 (.float .f64 x) (.float .f64 y)).run Try.prog w = .ok (.float .f64 (addR x y w)) (w.drewN (addK x y)) := by
  unfold addR addK
  cases h : FloatKind.f64.format.add x y with
  | some r =>
    rw [run_float_arith w .add 24 .f64 x y r h]
    simp [World.drewN]
  | none =>
    simp [binOp, Op.floatArith, h, Question.forced]
    rfl

/-- A store of a float, for the walk. -/
theorem st_float (w : World) (a : Addr) (m : Mode) (n : Nat) : (store a (.float .f64 n) m).run Try.prog w = stored Try.prog w a (.float .f64 n) m := run_store Try.prog w a _ m rfl

/-! ### slices -/
/-- A slice of floats whose cells lie below block B. -/
structure Flts (w : World) (B : Nat) (a : Option Addr) (len : Nat) (fs : Nat → Nat) : Prop where
  cells : 0 < len → ∃ b off, a = some ⟨b, off, none⟩ ∧ b < B ∧ ∀ j, j < len → w.cell? ⟨b, off + j, none⟩ = some (.float .f64 (fs j))
  len_le : len ≤ maxLen
/-- A slice of counts whose cells lie below block B. -/
structure Nums (w : World) (B : Nat) (a : Option Addr) (len : Nat) (zs : Nat → Int) : Prop where
  bd : ∀ j, j < len → 0 ≤ zs j ∧ zs j < 18446744073709551616
  cells : 0 < len → ∃ b off, a = some ⟨b, off, none⟩ ∧ b < B ∧ ∀ j, j < len → w.cell? ⟨b, off + j, none⟩ = some (.int .u64 (zs j))
  len_le : len ≤ maxLen
theorem Flts.below {w w' : World} {B : Nat} {a : Option Addr} {len : Nat} {fs : Nat → Nat} (h : Flts w B a len fs) (hb : Below B w w') : Flts w' B a len fs :=
  ⟨fun h0 => by
    obtain ⟨b, off, ha, hlt, hc⟩ := h.cells h0
    exact ⟨b, off, ha, hlt, fun j hj => (hb.cell (p := ⟨b, off + j, none⟩) hlt).trans (hc j hj)⟩, h.len_le⟩
theorem Flts.mono {w : World} {B B' : Nat} {a : Option Addr} {len : Nat} {fs : Nat → Nat} (h : Flts w B a len fs) (hB : B ≤ B') : Flts w B' a len fs :=
  ⟨fun h0 => by
    obtain ⟨b, off, ha, hlt, hc⟩ := h.cells h0
    exact ⟨b, off, ha, Nat.lt_of_lt_of_le hlt hB, hc⟩, h.len_le⟩
theorem Nums.below {w w' : World} {B : Nat} {a : Option Addr} {len : Nat} {zs : Nat → Int} (h : Nums w B a len zs) (hb : Below B w w') : Nums w' B a len zs :=
  ⟨h.bd, fun h0 => by
    obtain ⟨b, off, ha, hlt, hc⟩ := h.cells h0
    exact ⟨b, off, ha, hlt, fun j hj => (hb.cell (p := ⟨b, off + j, none⟩) hlt).trans (hc j hj)⟩, h.len_le⟩
theorem Nums.mono {w : World} {B B' : Nat} {a : Option Addr} {len : Nat} {zs : Nat → Int} (h : Nums w B a len zs) (hB : B ≤ B') : Nums w B' a len zs :=
  ⟨h.bd, fun h0 => by
    obtain ⟨b, off, ha, hlt, hc⟩ := h.cells h0
    exact ⟨b, off, ha, Nat.lt_of_lt_of_le hlt hB, hc⟩, h.len_le⟩
theorem sz24 (w : World) : (sizeOf 24).run Try.prog w = .ok 1 w := by kernel_rfl
theorem sz30 (w : World) : (sizeOf 30).run Try.prog w = .ok 1 w := by kernel_rfl
theorem el22 : Try.prog.elem 22 = 24 := by simp [Program.elem, Try.underlying22]
theorem el23 : Try.prog.elem 23 = 30 := by simp [Program.elem, Try.underlying23]
theorem Flts.idx {w : World} {B : Nat} {a : Option Addr} {len : Nat} {fs : Nat → Nat} (h : Flts w B a len fs) {k : Nat} (hk : k < len) (cap : Nat) :
    ∃ b o, (∀ w1 : World, (Instr.indexAt 22 (.slice a len cap) (.int .i64 (k : Int))).run Try.prog w1 = .ok (.pointer (some ⟨b, o, none⟩)) w1) ∧ w.cell? ⟨b, o, none⟩ = some (.float .f64 (fs k)) ∧ b < B := by
  obtain ⟨b, off, rfl, hlt, hc⟩ := h.cells (by omega)
  refine ⟨b, off + k, fun w1 => ?_, hc k hk, hlt⟩
  rw [run_indexAt_slice (P := Try.prog) w1 22 ⟨b, off, none⟩ len cap .i64 (k : Int) (by rw [el22]; exact Try.underlying22), if_pos (by omega), el22, sz24]
  simp [Result.andThen, Addr.add]
theorem Nums.idx {w : World} {B : Nat} {a : Option Addr} {len : Nat} {zs : Nat → Int} (h : Nums w B a len zs) {k : Nat} (hk : k < len) (cap : Nat) :
    ∃ b o, (∀ w1 : World, (Instr.indexAt 23 (.slice a len cap) (.int .i64 (k : Int))).run Try.prog w1 = .ok (.pointer (some ⟨b, o, none⟩)) w1) ∧ w.cell? ⟨b, o, none⟩ = some (.int .u64 (zs k)) ∧ b < B := by
  obtain ⟨b, off, rfl, hlt, hc⟩ := h.cells (by omega)
  refine ⟨b, off + k, fun w1 => ?_, hc k hk, hlt⟩
  rw [run_indexAt_slice (P := Try.prog) w1 23 ⟨b, off, none⟩ len cap .i64 (k : Int) (by rw [el23]; exact Try.underlying23), if_pos (by omega), el23, sz30]
  simp [Result.andThen, Addr.add]

/-- A row of counts of the call's own. -/
structure Row (w : World) (G n : Nat) (cs : Nat → Int) : Prop where
  cell : ∀ j, j < n → w.cell? ⟨G, j, none⟩ = some (.int .u64 (cs j))
  frozen : ∀ j, j < n → w.frozen? ⟨G, j, none⟩ = false
  lt : G < w.heap.size
theorem Row.below {w w' : World} {B G n : Nat} {cs : Nat → Int} (h : Row w G n cs) (hb : Below B w w') (hB : G < B) : Row w' G n cs :=
  ⟨fun j hj => (hb.cell (p := ⟨G, j, none⟩) hB).trans (h.cell j hj), fun j hj => (hb.frozen (p := ⟨G, j, none⟩) hB).trans (h.frozen j hj), Nat.lt_of_lt_of_le h.lt hb.size⟩
theorem Row.store {w : World} {G n i : Nat} {cs : Nat → Int} (h : Row w G n cs) (hi : i < n) : Row (w.setCell ⟨G, i, none⟩ (.int .u64 (IntKind.u64.wrap (cs i + 1)))) G n (obs cs i) := by
  refine ⟨fun j hj => ?_, fun j hj => by rw [World.frozen?_setCell]; exact h.frozen j hj, by simpa [World.setCell] using h.lt⟩
  unfold obs
  by_cases e : j = i
  · subst e
    rw [World.cell?_setCell_same w _ _ (h.cell j hj), if_pos rfl]
  · rw [World.cell?_setCell_other _ _ _ _ (by intro e'; have h2 := congrArg Addr.off e'; dsimp only at h2; omega), h.cell j hj, if_neg e]
theorem Row.setCell {w : World} {G n : Nat} {cs : Nat → Int} (h : Row w G n cs) {a : Addr} (ha : G ≠ a.block) (u : Value) : Row (w.setCell a u) G n cs :=
  ⟨fun j hj => by rw [World.cell?_setCell_other _ _ _ _ (by intro e'; exact ha (congrArg Addr.block e').symm)]; exact h.cell j hj, fun j hj => by rw [World.frozen?_setCell]; exact h.frozen j hj, by simpa [World.setCell] using h.lt⟩
theorem Row.drewN {w : World} {G n : Nat} {cs : Nat → Int} (h : Row w G n cs) (m : Nat) : Row (w.drewN m) G n cs := ⟨h.cell, h.frozen, h.lt⟩
theorem Row.nums {w : World} {G n B : Nat} {cs : Nat → Int} (h : Row w G n cs) (hB : G < B) (hn : n ≤ maxLen) (bd : ∀ j, j < n → 0 ≤ cs j ∧ cs j < 18446744073709551616) : Nums w B (some ⟨G, 0, none⟩) n cs :=
  ⟨bd, fun _ => ⟨G, 0, rfl, hB, fun j hj => by rw [Nat.zero_add]; exact h.cell j hj⟩, hn⟩

/-- The bounds of a histogram: floats in a block below C that is neither the histogram's nor the counts'. -/
def BFlts (w : World) (C hb G : Nat) (a : Option Addr) (len : Nat) (fs : Nat → Nat) : Prop :=
  0 < len → ∃ b off, a = some ⟨b, off, none⟩ ∧ (b < C ∧ b ≠ hb ∧ b ≠ G) ∧ ∀ j, j < len → w.cell? ⟨b, off + j, none⟩ = some (.float .f64 (fs j))
theorem BFlts.flts {w : World} {C hb G : Nat} {a : Option Addr} {len : Nat} {fs : Nat → Nat} (h : BFlts w C hb G a len fs) (hl : len ≤ maxLen) : Flts w C a len fs :=
  ⟨fun h0 => by obtain ⟨b, off, ha, hc, hx⟩ := h h0; exact ⟨b, off, ha, hc.1, hx⟩, hl⟩

/-- A histogram of the call's own: block hb; its counts in block G; both from block B on, below block C; its bounds elsewhere below C. -/
structure Hist (w : World) (B C hb G : Nat) (ab : Option Addr) (n cb cc : Nat) (bs : Nat → Nat) (cs : Nat → Int) (s : Nat) : Prop where
  c0 : w.cell? ⟨hb, 0, none⟩ = some (.slice ab n cb)
  c1 : w.cell? ⟨hb, 1, none⟩ = some (.slice (some ⟨G, 0, none⟩) (n + 1) cc)
  c2 : w.cell? ⟨hb, 2, none⟩ = some (.float .f64 s)
  f2 : w.frozen? ⟨hb, 2, none⟩ = false
  row : Row w G (n + 1) cs
  bounds : BFlts w C hb G ab n bs
  hB : B ≤ hb
  hG : B ≤ G
  ne : hb ≠ G
  lt : hb < C
  ltG : G < C
  ltC : C ≤ w.heap.size
theorem Hist.below {w w' : World} {B B' C hb G : Nat} {ab : Option Addr} {n cb cc : Nat} {bs : Nat → Nat} {cs : Nat → Int} {s : Nat} (h : Hist w B C hb G ab n cb cc bs cs s) (hw : Below B' w w') (h1 : C ≤ B') : Hist w' B C hb G ab n cb cc bs cs s :=
  have l1 : hb < B' := Nat.lt_of_lt_of_le h.lt h1
  have l2 : G < B' := Nat.lt_of_lt_of_le h.ltG h1
  ⟨(hw.cell (p := ⟨hb, 0, none⟩) l1).trans h.c0, (hw.cell (p := ⟨hb, 1, none⟩) l1).trans h.c1, (hw.cell (p := ⟨hb, 2, none⟩) l1).trans h.c2, (hw.frozen (p := ⟨hb, 2, none⟩) l1).trans h.f2, h.row.below hw l2,
    fun h0 => by
      obtain ⟨b, off, ha, hc, hx⟩ := h.bounds h0
      exact ⟨b, off, ha, hc, fun j hj => (hw.cell (p := ⟨b, off + j, none⟩) (Nat.lt_of_lt_of_le hc.1 h1)).trans (hx j hj)⟩,
    h.hB, h.hG, h.ne, h.lt, h.ltG, Nat.le_trans h.ltC hw.size⟩
theorem Hist.drewN {w : World} {B C hb G : Nat} {ab : Option Addr} {n cb cc : Nat} {bs : Nat → Nat} {cs : Nat → Int} {s : Nat} (h : Hist w B C hb G ab n cb cc bs cs s) (m : Nat) : Hist (w.drewN m) B C hb G ab n cb cc bs cs s :=
  ⟨h.c0, h.c1, h.c2, h.f2, h.row.drewN m, h.bounds, h.hB, h.hG, h.ne, h.lt, h.ltG, h.ltC⟩

end Go.Proofs.Qxb6627541a
