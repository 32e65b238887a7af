import Derived.Test.Qxb6627541aFloat
import Derived.WalkKit
namespace Go.Proofs.Qxb6627541a
open Go.RowKit

/-! ### floats, as words -/
/-- How two words stand. -/
def ord (a b : Nat) : Option Ordering := FloatKind.f64.format.order a b
def ltF (a b : Nat) : Bool := FloatKind.f64.format.order a b == some .lt
def leF (a b : Nat) : Bool := FloatKind.f64.format.order a b == some .lt || FloatKind.f64.format.order a b == some .eq
def nanF (a : Nat) : Bool := (FloatKind.f64.format.read a).isNaN
theorem le_ltF {a b c : Nat} (h1 : leF a b = true) (h2 : ltF b c = true) : ltF a c = true := by
  unfold leF at h1
  unfold ltF at *
  simp only [Bool.or_eq_true, beq_iff_eq] at *
  exact Fl.le_lt h1 h2
theorem gtF_iff (a b : Nat) : (FloatKind.f64.format.order a b == some .gt) = ltF b a := by
  unfold ltF
  rw [Bool.eq_iff_iff, beq_iff_eq, beq_iff_eq]
  exact Fl.gt_iff
theorem ord_self {a : Nat} (h : nanF a = false) : FloatKind.f64.format.order a a = some .eq := Fl.refl_eq h
theorem ord_nan {a b : Nat} (h : nanF a = true) : FloatKind.f64.format.order a b = none := Fl.order_nan_left _ _ h

/-- r is a sum of x and y: the nearest word; where there is none, some NaN. -/
def FAdd (x y r : Nat) : Prop := FloatKind.f64.format.add x y = some r ∨ (FloatKind.f64.format.add x y = none ∧ nanF r = true)
/-- One word, or two NaNs. -/
def Same (a b : Nat) : Prop := a = b ∨ (nanF a = true ∧ nanF b = true)
theorem Same.refl (a : Nat) : Same a a := .inl rfl
theorem add_nan {a b : Nat} (h : nanF a = true) : FloatKind.f64.format.add a b = none := by
  show ((FloatKind.f64.format.read a).sum _).map _ = none
  rw [Fl.sum_nan_left _ _ h]; rfl
theorem FAdd.same {a b y r s : Nat} (h : Same a b) (h1 : FAdd a y r) (h2 : FAdd b y s) : Same r s := by
  rcases h with rfl | ⟨ha, hb⟩
  · rcases h1 with h1 | ⟨h1, n1⟩ <;> rcases h2 with h2 | ⟨h2, n2⟩
    · exact .inl (Option.some.inj (h1.symm.trans h2))
    · rw [h1] at h2; cases h2
    · rw [h1] at h2; cases h2
    · exact .inr ⟨n1, n2⟩
  · rcases h1 with h1 | ⟨_, n1⟩
    · rw [add_nan ha] at h1; cases h1
    · rcases h2 with h2 | ⟨_, n2⟩
      · rw [add_nan hb] at h2; cases h2
      · exact .inr ⟨n1, n2⟩

/-- s is s0 with xs a, xs (a + 1) .. added in order, k of them. -/
def FSum (xs : Nat → Nat) (a : Nat) : Nat → Nat → Nat → Prop
  | 0, s0, s => s = s0
  | k + 1, s0, s => ∃ s1, FSum xs a k s0 s1 ∧ FAdd s1 (xs (a + k)) s
theorem FSum.same {xs : Nat → Nat} {a : Nat} : ∀ {k s0 t0 s t : Nat}, Same s0 t0 → FSum xs a k s0 s → FSum xs a k t0 t → Same s t
  | 0, _, _, _, _, h, h1, h2 => by rw [show _ = _ from h1, show _ = _ from h2]; exact h
  | k + 1, _, _, _, _, h, ⟨s1, h1, h1'⟩, ⟨t1, h2, h2'⟩ => FAdd.same (FSum.same h h1 h2) h1' h2'
theorem FSum.append {xs : Nat → Nat} {a k : Nat} : ∀ {m s0 s1 s : Nat}, FSum xs a k s0 s1 → FSum xs (a + k) m s1 s → FSum xs a (k + m) s0 s
  | 0, _, _, _, h, h2 => by rw [show _ = _ from h2]; exact h
  | m + 1, _, _, _, h, ⟨s2, h2, h3⟩ => ⟨s2, FSum.append h h2, by show FAdd s2 (xs (a + (k + m))) _; rw [← Nat.add_assoc]; exact h3⟩

/-! ### buckets -/
/-- The first bound that is not below v; n where there is none. -/
def bkt (bs : Nat → Nat) (v : Nat) : Nat → Nat
  | 0 => 0
  | n + 1 => if bkt bs v n = n ∧ ltF (bs n) v = true then n + 1 else bkt bs v n
theorem bkt_le (bs : Nat → Nat) (v : Nat) : ∀ n, bkt bs v n ≤ n
  | 0 => Nat.le_refl _
  | n + 1 => by
    have := bkt_le bs v n
    unfold bkt; split <;> omega
theorem bkt_of {bs : Nat → Nat} {v : Nat} : ∀ {n i : Nat}, i ≤ n → (∀ t, t < i → ltF (bs t) v = true) → (i < n → ltF (bs i) v = false) → bkt bs v n = i
  | 0, i, h, _, _ => by unfold bkt; omega
  | n + 1, i, h, h1, h2 => by
    unfold bkt
    by_cases e : i = n + 1
    · subst e
      rw [bkt_of (n := n) (i := n) (Nat.le_refl _) (fun t ht => h1 t (by omega)) (fun h => by omega), if_pos ⟨rfl, h1 n (by omega)⟩]
    · rw [bkt_of (n := n) (i := i) (by omega) h1 (fun hi => h2 (by omega))]
      by_cases e2 : i = n
      · subst e2; rw [if_neg (by rw [h2 (by omega)]; simp)]
      · rw [if_neg (by omega)]

/-- How many bounds lie below v. -/
def nlt (bs : Nat → Nat) (v : Nat) : Nat → Nat
  | 0 => 0
  | n + 1 => nlt bs v n + (if ltF (bs n) v = true then 1 else 0)
theorem nlt_le (bs : Nat → Nat) (v : Nat) : ∀ n, nlt bs v n ≤ n
  | 0 => Nat.le_refl _
  | n + 1 => by
    have := nlt_le bs v n
    unfold nlt; split <;> omega
/-- The bounds never go down. -/
def Sorted (bs : Nat → Nat) (n : Nat) : Prop := ∀ j, j + 1 < n → leF (bs j) (bs (j + 1)) = true
theorem Sorted.down {bs : Nat → Nat} {n : Nat} (h : Sorted bs n) {v : Nat} : ∀ {d j : Nat}, j + d < n → ltF (bs (j + d)) v = true → ltF (bs j) v = true
  | 0, _, _, h2 => h2
  | d + 1, j, h1, h2 => h.down (d := d) (j := j) (by omega) (le_ltF (h (j + d) (by omega)) h2)
theorem nlt_all {bs : Nat → Nat} {v : Nat} : ∀ {n : Nat}, (∀ t, t < n → ltF (bs t) v = true) → nlt bs v n = n
  | 0, _ => rfl
  | n + 1, h => by unfold nlt; rw [nlt_all (fun t ht => h t (by omega)), if_pos (h n (by omega))]
theorem nlt_eq_bkt {bs : Nat → Nat} {v : Nat} : ∀ {n : Nat}, Sorted bs n → nlt bs v n = bkt bs v n
  | 0, _ => rfl
  | n + 1, h => by
    have ih : nlt bs v n = bkt bs v n := nlt_eq_bkt (fun j hj => h j (by omega))
    unfold nlt bkt
    by_cases hl : ltF (bs n) v = true
    · have all : ∀ t, t < n → ltF (bs t) v = true := fun t ht => h.down (d := n - t) (j := t) (by omega) (by rw [show t + (n - t) = n from by omega]; exact hl)
      have e := nlt_all all
      rw [if_pos hl, if_pos ⟨by rw [← ih, e], hl⟩, e]
    · rw [if_neg hl, if_neg (fun h => hl h.2), ih]; omega
theorem bkt_last {bs : Nat → Nat} {n : Nat} (h : Sorted bs (n + 1)) (v : Nat) : (bkt bs v (n + 1) = n + 1) ↔ ltF (bs n) v = true := by
  constructor
  · intro e
    unfold bkt at e
    have := bkt_le bs v n
    split at e
    · rename_i hh; exact hh.2
    · omega
  · intro hl
    rw [← nlt_eq_bkt h]
    exact nlt_all (fun t ht => h.down (d := n - t) (j := t) (by omega) (by rw [show t + (n - t) = n from by omega]; exact hl))

/-! ### counts -/
/-- One more at i; the count wraps. -/
def obs (cs : Nat → Int) (i : Nat) : Nat → Int := fun j => if j = i then IntKind.u64.wrap (cs j + 1) else cs j
/-- The counts behind k values from xs a on. -/
def runC (cs : Nat → Int) (bs : Nat → Nat) (n : Nat) (xs : Nat → Nat) (a : Nat) : Nat → Nat → Int
  | 0 => cs
  | k + 1 => obs (runC cs bs n xs a k) (bkt bs (xs (a + k)) n)
/-- How many of the k values from xs a on fall into bucket j. -/
def cnt (bs : Nat → Nat) (n : Nat) (xs : Nat → Nat) (a : Nat) : Nat → Nat → Nat
  | 0, _ => 0
  | k + 1, j => cnt bs n xs a k j + (if j = bkt bs (xs (a + k)) n then 1 else 0)
theorem cnt_le (bs : Nat → Nat) (n : Nat) (xs : Nat → Nat) (a j : Nat) : ∀ k, cnt bs n xs a k j ≤ k
  | 0 => Nat.le_refl _
  | k + 1 => by
    have := cnt_le bs n xs a j k
    unfold cnt; split <;> omega
theorem cnt_add (bs : Nat → Nat) (n : Nat) (xs : Nat → Nat) (a k j : Nat) : ∀ m, cnt bs n xs a (k + m) j = cnt bs n xs a k j + cnt bs n xs (a + k) m j
  | 0 => rfl
  | m + 1 => by
    show cnt bs n xs a (k + m) j + _ = cnt bs n xs a k j + (cnt bs n xs (a + k) m j + _)
    rw [cnt_add bs n xs a k j m, Nat.add_assoc a k m, Nat.add_assoc]
    rfl
theorem runC_eq {cs : Nat → Int} {bs : Nat → Nat} {n : Nat} {xs : Nat → Nat} {a j : Nat} (h : 0 ≤ cs j ∧ cs j < 18446744073709551616) : ∀ k, runC cs bs n xs a k j = (cs j + cnt bs n xs a k j) % 18446744073709551616
  | 0 => by show cs j = (cs j + ((0 : Nat) : Int)) % _; omega
  | k + 1 => by
    have ih := runC_eq (bs := bs) (n := n) (xs := xs) (a := a) h k
    show (if j = bkt bs (xs (a + k)) n then IntKind.u64.wrap (runC cs bs n xs a k j + 1) else runC cs bs n xs a k j) = (cs j + ((cnt bs n xs a k j + (if j = bkt bs (xs (a + k)) n then 1 else 0) : Nat) : Int)) % _
    split
    · rw [IntKind.wrap_u64, ih]; omega
    · rw [ih]; simp
/-- The sum of the first i buckets. -/
def tot (bs : Nat → Nat) (n : Nat) (xs : Nat → Nat) (a k : Nat) : Nat → Nat
  | 0 => 0
  | i + 1 => tot bs n xs a k i + cnt bs n xs a k i
theorem tot_zero (bs : Nat → Nat) (n : Nat) (xs : Nat → Nat) (a : Nat) : ∀ i, tot bs n xs a 0 i = 0
  | 0 => rfl
  | i + 1 => by unfold tot; rw [tot_zero bs n xs a i]; rfl
theorem tot_step (bs : Nat → Nat) (n : Nat) (xs : Nat → Nat) (a k : Nat) : ∀ i, tot bs n xs a (k + 1) i = tot bs n xs a k i + (if bkt bs (xs (a + k)) n < i then 1 else 0)
  | 0 => by simp [tot]
  | i + 1 => by
    show tot bs n xs a (k + 1) i + (cnt bs n xs a k i + _) = tot bs n xs a k i + cnt bs n xs a k i + _
    rw [tot_step bs n xs a k i]
    by_cases e : i = bkt bs (xs (a + k)) n
    · rw [if_pos e, if_neg (by omega), if_pos (by omega)]; omega
    · rw [if_neg e]
      by_cases e2 : bkt bs (xs (a + k)) n < i
      · rw [if_pos e2, if_pos (by omega)]; omega
      · rw [if_neg e2, if_neg (by omega)]; omega
theorem tot_all (bs : Nat → Nat) (n : Nat) (xs : Nat → Nat) (a : Nat) : ∀ k, tot bs n xs a k (n + 1) = k
  | 0 => tot_zero _ _ _ _ _
  | k + 1 => by
    rw [tot_step, tot_all bs n xs a k, if_pos (by have := bkt_le bs (xs (a + k)) n; omega)]
theorem tot_le (bs : Nat → Nat) (n : Nat) (xs : Nat → Nat) (a : Nat) (i : Nat) : ∀ k, tot bs n xs a k i ≤ k
  | 0 => by rw [tot_zero]; exact Nat.le_refl _
  | k + 1 => by
    have := tot_le bs n xs a i k
    rw [tot_step]; split <;> omega

end Go.Proofs.Qxb6627541a
