import Derived.Test.Qxb6627578aFmtParse
import Derived.Test.Qxb6627578aFmtPlain
namespace Go.Proofs.Qxb6627578aFmt
open Go.RowKit Go.Extern.Stop Go.Stop Go.Extern

/-- What zzCloneBytes hands back, in one. -/
def ClonePost2 (w : World) (n : Nat) (fs : Nat → Int) (e : Ending) (w' : World) : Prop :=
  ∃ a1 c1, e = .returned (.slice a1 n c1) ∧ Byts w' w'.heap.size a1 n fs ∧ Below w.heap.size w w' ∧ (0 < n → a1 = some ⟨w.heap.size, 0, none⟩ ∧ Row w' w.heap.size n fs)
theorem clone_two (B : Nat) (a : Option Addr) (n c : Nat) (fs : Nat → Int) (w : World) (h : Byts w B a n fs) (hB : B ≤ w.heap.size) (hn : n ≤ 1048576) :
    Calls Tryf.prog 5 #[.slice a n c] w fun e w' => ClonePost2 w n fs e w' := by
  refine (clone_any B a n c fs w h hB hn).mono ?_
  rintro e w' ⟨hb, ⟨rfl, rfl, rfl⟩ | ⟨rfl, R⟩⟩
  · exact ⟨none, 0, rfl, ⟨fun j hj => by omega, fun h => by omega, Nat.zero_le _⟩, hb, fun h => by omega⟩
  · exact ⟨_, n, rfl, R.byts R.lt h.len_le h.bd, hb, fun _ => ⟨rfl, R⟩⟩

/-- The bytes with k bits of the last one struck. -/
def msk (zs : Nat → Int) (m r k : Nat) : Nat → Int := fun j => if j = m then ((clrN (zs m).toNat r k : Nat) : Int) else zs j
def MRel (w0 : World) (G l m p r : Nat) (zs : Nat → Int) (i : Value) (wr : World) : Prop :=
  ∃ k : Nat, p + k ≤ 8 * l ∧ i = .int .i64 ((p + k : Nat) : Int) ∧ Row wr G l (msk zs m r k) ∧ Below G w0 wr
theorem Row.put {w : World} {G n i : Nat} {cs ds : Nat → Int} (h : Row w G n cs) (hi : i < n) (u : Int) (hd : ∀ j, j < n → ds j = if j = i then u else cs j) : Row (w.setCell ⟨G, i, none⟩ (.int .u8 u)) G n ds := by
  refine ⟨fun j hj => ?_, fun j hj => by rw [World.frozen?_setCell]; exact h.frozen j hj, by simpa [World.setCell] using h.lt⟩
  rw [hd j hj]
  by_cases e : j = i
  · subst e
    rw [World.cell?_setCell_same w _ _ (h.cell j hj), if_pos rfl]
  · rw [World.cell?_setCell_other _ _ _ _ (by intro e'; have h2 := congrArg Addr.off e'; dsimp only at h2; omega), h.cell j hj, if_neg e]
theorem Row.congr {w : World} {G n : Nat} {cs ds : Nat → Int} (h : Row w G n cs) (hd : ∀ j, j < n → ds j = cs j) : Row w G n ds := ⟨fun j hj => by rw [hd j hj]; exact h.cell j hj, h.frozen, h.lt⟩


theorem spare_l (B : Nat) (a : Option Addr) (l m c p r : Nat) (zs : Nat → Int) (w : World) (hl : l = m + 1) (h : Byts w B a l zs) (hp : p ≤ 1073741824) (hn : l = (p + 7) / 8) (hr : p % 8 = r) (h0 : 0 < r)
    (hy : ¬ IntKind.u8.wrap (zs m * 2 ^ r) = 0) : Calls Tryf.prog 6 #[.slice a l c, .int .i64 p] w fun e w' => Refused w e w' := by
  subst hl
  exact parse_spare B a m c p r zs w h hp hn (by omega) h0 _ rfl (by simp [hy])
theorem odd_l (a : Option Addr) (l m c p r : Nat) (zs : Nat → Int) (w : World) (hl : l = m + 1) (h : Byts w w.heap.size a l zs) (hp : p ≤ 1073741824) (hn : l = (p + 7) / 8) (hr : p % 8 = r) (h0 : 0 < r)
    (hy : IntKind.u8.wrap (zs m * 2 ^ r) = 0) : Calls Tryf.prog 6 #[.slice a l c, .int .i64 p] w fun e w' => Taken w l zs e w' := by
  subst hl
  exact parse_odd a m c p r zs w h hp hn (by omega) h0 hy
/-- The masked byte has no spare bit; it is the old one just where the old one has none. -/
theorem msk_zero {zs : Nat → Int} {m r : Nat} {z : Nat} (hz : zs m = (z : Int)) (h256 : z < 256) (hr : r < 8) : IntKind.u8.wrap (msk zs m r (8 - r) m * 2 ^ r) = 0 := by
  have := fact_zero ⟨z, h256⟩ ⟨r, hr⟩
  dsimp only at this
  unfold msk
  rw [if_pos rfl, hz, Int.toNat_natCast, IntKind.wrap_u8]
  have e : ((clrN z r (8 - r) : Nat) : Int) * 2 ^ r = ((clrN z r (8 - r) * 2 ^ r : Nat) : Int) := by push_cast; rfl
  rw [e]; omega
theorem msk_same {zs : Nat → Int} {m r : Nat} {z : Nat} (hz : zs m = (z : Int)) (h256 : z < 256) (hr : r < 8) : (zs m = msk zs m r (8 - r) m) ↔ IntKind.u8.wrap (zs m * 2 ^ r) = 0 := by
  have := fact_same ⟨z, h256⟩ ⟨r, hr⟩
  dsimp only at this
  unfold msk
  rw [if_pos rfl, hz, Int.toNat_natCast, IntKind.wrap_u8]
  have e : ((z : Nat) : Int) * 2 ^ r = ((z * 2 ^ r : Nat) : Int) := by push_cast; rfl
  rw [e]
  constructor
  · intro h
    have := this.1 (by omega)
    omega
  · intro h
    have := this.2 (by omega)
    omega
theorem msk_bd {zs : Nat → Int} {m r k l : Nat} {z : Nat} (hz : zs m = (z : Int)) (h256 : z < 256) (bd : ∀ j, j < l → 0 ≤ zs j ∧ zs j < 256) : ∀ j, j < l → 0 ≤ msk zs m r k j ∧ msk zs m r k j < 256 := by
  intro j hj
  unfold msk
  by_cases e : j = m
  · rw [if_pos e, hz, Int.toNat_natCast]
    have := clrN_lt h256 r k
    omega
  · rw [if_neg e]; exact bd j hj

theorem mrel_next {w0 wr : World} {G l m pp r k i t y z : Nat} {zs : Nat → Int} (HI : pp + k = i) (HT : r + k = t) (HY : clrN z r k = y) (hz : zs m = (z : Int)) (h256 : z < 256) (hlt : i < 8 * l) (R : Row wr G l (msk zs m r k)) (B : Below G w0 wr) (hm : m < l) :
    MRel w0 G l m pp r zs (.int .i64 ((i : Int) + 1)) (wr.setCell ⟨G, m, none⟩ (.int .u8 (bits .andNot .u8 (y : Int) (128 / 2 ^ t)))) := by
  have e1 : (128 / 2 ^ t : Int) = ((128 / 2 ^ t : Nat) : Int) := by push_cast; rfl
  have hy : y < 256 := by rw [← HY]; exact clrN_lt h256 r k
  have hb : 128 / 2 ^ t < 256 := Nat.lt_of_le_of_lt (Nat.div_le_self _ _) (by omega)
  rw [e1, u8_andNot_nat y _ hy hb]
  refine ⟨k + 1, by omega, by rw [← HI]; go_num, R.put hm _ (fun j hj => ?_), B.setCell (p := ⟨G, m, none⟩) (Nat.le_refl _) _⟩
  unfold msk
  by_cases e : j = m
  · rw [if_pos e, if_pos e, hz, Int.toNat_natCast]
    show ((clrN z r k &&& (255 - 128 / 2 ^ (r + k)) : Nat) : Int) = _
    rw [HY, HT]
  · rw [if_neg e, if_neg e, if_neg e]

end Go.Proofs.Qxb6627578aFmt
