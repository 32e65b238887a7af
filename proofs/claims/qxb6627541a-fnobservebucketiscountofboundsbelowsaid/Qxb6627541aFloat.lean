import GoSem.Core.Float
import Ieee.Arith
namespace Go.Proofs.Qxb6627541a.Fl
open Ieee Ieee.Datum

theorem cmp_lt {a b : Int} : compare a b = .lt ↔ a < b := by
  show compareOfLessAndEq a b = .lt ↔ _
  unfold compareOfLessAndEq
  split
  · simp [*]
  · split <;> simp [*]
theorem cmp_eq {a b : Int} : compare a b = .eq ↔ a = b := by
  show compareOfLessAndEq a b = .eq ↔ _
  unfold compareOfLessAndEq
  split
  · simp; omega
  · split <;> simp [*]
theorem cmp_gt {a b : Int} : compare a b = .gt ↔ b < a := by
  show compareOfLessAndEq a b = .gt ↔ _
  unfold compareOfLessAndEq
  split
  · simp; omega
  · split
    · simp; omega
    · simp; omega

/-- Two comparisons that agree. -/
theorem cmp_congr {a b c d : Int} (h1 : a < b ↔ c < d) (h2 : b < a ↔ d < c) : compare a b = compare c d := by
  rcases Int.lt_trichotomy a b with h | h | h
  · rw [cmp_lt.2 h, cmp_lt.2 (h1.1 h)]
  · have e : c = d := by
      rcases Int.lt_trichotomy c d with k | k | k
      · have := h1.2 k; omega
      · exact k
      · have := h2.2 k; omega
    rw [cmp_eq.2 h, cmp_eq.2 e]
  · rw [cmp_gt.2 h, cmp_gt.2 (h2.1 h)]

theorem signed_shift (s : Bool) (m a b : Nat) : signed s m (a + b) = signed s m a * (2 ^ b : Nat) := by
  unfold signed
  have e : m <<< (a + b) = m <<< a * 2 ^ b := by rw [Nat.shiftLeft_eq, Nat.shiftLeft_eq, Nat.pow_add, Nat.mul_assoc]
  rw [e]
  split <;> simp [Int.natCast_mul, Int.neg_mul]

theorem cmp_scale (a b : Int) (c : Nat) (hc : 0 < c) : compare (a * (c : Int)) (b * (c : Int)) = compare a b := by
  have hc' : (0 : Int) < c := by omega
  exact cmp_congr (Int.mul_lt_mul_right hc') (Int.mul_lt_mul_right hc')

/-- The place of a number; nought else. -/
def pl : Datum → Int
  | .number _ _ i => i
  | _ => 0
def fin : Datum → Bool
  | .number .. => true
  | _ => false
/-- The datum as an integer of units 2^b; the infinities as -M and M. -/
def vv (b M : Int) : Datum → Int
  | .number s m i => signed s m (i - b).toNat
  | .infinity s => if s then -M else M
  | .nan .. => 0

theorem order_vv (b M : Int) (x y : Datum) (hx : x.isNaN = false) (hy : y.isNaN = false) (hM : 0 < M) (bx : fin x = true → b ≤ pl x) (hby : fin y = true → b ≤ pl y)
    (Mx : fin x = true → -M < vv b M x ∧ vv b M x < M) (My : fin y = true → -M < vv b M y ∧ vv b M y < M) : x.order y = some (compare (vv b M x) (vv b M y)) := by
  cases x with
  | nan => cases hx
  | infinity s =>
    cases y with
    | nan => cases hy
    | infinity t =>
      cases s <;> cases t <;> simp only [order, vv, Bool.toNat] <;> congr 1 <;> symm
      · exact cmp_eq.2 rfl
      · exact cmp_gt.2 (by simp; omega)
      · exact cmp_lt.2 (by simp; omega)
      · exact cmp_eq.2 rfl
    | number t n j =>
      have h := My rfl
      cases s <;> simp only [order] <;> congr 1 <;> symm
      · exact cmp_gt.2 (by simpa [vv] using h.2)
      · exact cmp_lt.2 (by simpa [vv] using h.1)
  | number s m i =>
    have hx' := Mx rfl
    have hb : b ≤ i := bx rfl
    cases y with
    | nan => cases hy
    | infinity t =>
      cases t <;> simp only [order] <;> congr 1 <;> symm
      · exact cmp_lt.2 (by simpa [vv] using hx'.2)
      · exact cmp_gt.2 (by simpa [vv] using hx'.1)
    | number t n j =>
      have hb2 : b ≤ j := hby rfl
      simp only [order, vv]
      congr 1
      have e1 : (i - b).toNat = (i - min i j).toNat + (min i j - b).toNat := by omega
      have e2 : (j - b).toNat = (j - min i j).toNat + (min i j - b).toNat := by omega
      rw [e1, e2, signed_shift, signed_shift, cmp_scale _ _ _ (Nat.two_pow_pos _)]

theorem order_nan_left (x y : Datum) (h : x.isNaN = true) : x.order y = none := by
  cases x with
  | nan => cases y <;> rfl
  | infinity => cases h
  | number => cases h
theorem order_nan_right (x y : Datum) (h : y.isNaN = true) : x.order y = none := by
  cases y with
  | nan => cases x <;> rfl
  | infinity => cases h
  | number => cases h

/-- Three data at once: integers that stand as they stand. -/
theorem three (x y z : Datum) (hx : x.isNaN = false) (hy : y.isNaN = false) (hz : z.isNaN = false) :
    ∃ f : Datum → Int, ∀ a b, (a = x ∨ a = y ∨ a = z) → (b = x ∨ b = y ∨ b = z) → a.order b = some (compare (f a) (f b)) := by
  let b := min (pl x) (min (pl y) (pl z))
  let M : Int := 1 + (vv b 0 x).natAbs + (vv b 0 y).natAbs + (vv b 0 z).natAbs
  have hfin : ∀ (d : Datum) (K : Int), fin d = true → vv b K d = vv b 0 d := by
    intro d K h
    cases d with
    | number => rfl
    | infinity => cases h
    | nan => cases h
  have hn : ∀ d, (d = x ∨ d = y ∨ d = z) → d.isNaN = false := by rintro d (rfl | rfl | rfl) <;> assumption
  have hp : ∀ d, (d = x ∨ d = y ∨ d = z) → b ≤ pl d := by rintro d (rfl | rfl | rfl) <;> (show min _ _ ≤ _; omega)
  have hM : ∀ d, (d = x ∨ d = y ∨ d = z) → fin d = true → -M < vv b M d ∧ vv b M d < M := by
    rintro d hd hf
    rw [hfin d M hf]
    rcases hd with rfl | rfl | rfl <;> (show _ < _ ∧ _ < 1 + _ + _ + _; constructor <;> (try show -(1 + _ + _ + _) < _) <;> omega)
  refine ⟨vv b M, fun p q hp' hq' => order_vv b M p q (hn p hp') (hn q hq') (by show (0 : Int) < 1 + _ + _ + _; omega) (fun _ => hp p hp') (fun _ => hp q hq') (hM p hp') (hM q hq')⟩

theorem not_nan_left {x y : Datum} {o : Ordering} (h : x.order y = some o) : x.isNaN = false := by
  cases hh : x.isNaN
  · rfl
  · rw [order_nan_left x y hh] at h; cases h
theorem not_nan_right {x y : Datum} {o : Ordering} (h : x.order y = some o) : y.isNaN = false := by
  cases hh : y.isNaN
  · rfl
  · rw [order_nan_right x y hh] at h; cases h

/-- x <= y, y < z: x < z. -/
theorem le_lt {x y z : Datum} (h1 : x.order y = some .lt ∨ x.order y = some .eq) (h2 : y.order z = some .lt) : x.order z = some .lt := by
  have hx : x.isNaN = false := by rcases h1 with h | h <;> exact not_nan_left h
  have hy := not_nan_left h2
  have hz := not_nan_right h2
  obtain ⟨f, hf⟩ := three x y z hx hy hz
  rw [hf y z (by simp) (by simp)] at h2
  rw [hf x y (by simp) (by simp)] at h1
  rw [hf x z (by simp) (by simp)]
  simp only [Option.some.injEq] at *
  have h2' := cmp_lt.1 h2
  rw [cmp_lt, cmp_eq] at h1
  exact cmp_lt.2 (by omega)

theorem gt_iff {x y : Datum} : x.order y = some .gt ↔ y.order x = some .lt := by
  constructor
  · intro h
    obtain ⟨f, hf⟩ := three x y y (not_nan_left h) (not_nan_right h) (not_nan_right h)
    rw [hf x y (by simp) (by simp)] at h
    rw [hf y x (by simp) (by simp)]
    simp only [Option.some.injEq] at *
    rw [cmp_gt] at h
    exact cmp_lt.2 h
  · intro h
    obtain ⟨f, hf⟩ := three x y y (not_nan_right h) (not_nan_left h) (not_nan_left h)
    rw [hf y x (by simp) (by simp)] at h
    rw [hf x y (by simp) (by simp)]
    simp only [Option.some.injEq] at *
    rw [cmp_lt] at h
    exact cmp_gt.2 h

theorem refl_eq {x : Datum} (h : x.isNaN = false) : x.order x = some .eq := by
  obtain ⟨f, hf⟩ := three x x x h h h
  rw [hf x x (by simp) (by simp), cmp_eq.2 rfl]

theorem sum_nan_left (x y : Datum) (h : x.isNaN = true) : x.sum y = none := by
  cases x with
  | nan => cases y <;> rfl
  | infinity => cases h
  | number => cases h

end Go.Proofs.Qxb6627541a.Fl
