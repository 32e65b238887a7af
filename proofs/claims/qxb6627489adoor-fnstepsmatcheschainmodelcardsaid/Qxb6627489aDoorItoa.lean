import Derived.Test.Qxb6627489aDoorText
import Derived.Lib.ItoaMem
namespace Go.Proofs.Qxb6627489aDoor
open Go.RowKit

/-- What of the numeral is still to be written. -/
def tailD (r : Nat) : List UInt8 := if r = 0 then [] else Lib.decDigits r
theorem tailD_step {r : Nat} (h : 0 < r) : tailD r = tailD (r / 10) ++ [UInt8.ofNat (48 + r % 10)] := by
  unfold tailD
  rw [if_neg (by omega), Lib.decDigits]
  by_cases h10 : r < 10
  · rw [dif_pos h10, if_pos (by omega), Nat.mod_eq_of_lt h10]; rfl
  · rw [dif_neg h10, if_neg (by omega)]

/-- The buffer behind ds.length digits. -/
structure Buf (w : World) (G p : Nat) (ds : List UInt8) : Prop where
  len : p + ds.length = 24
  old : ∀ j, j < p → ∃ n, w.cell? ⟨G, j, none⟩ = some (.int .u8 n)
  new : ∀ t, t < ds.length → w.cell? ⟨G, p + t, none⟩ = some (.int .u8 ((ds.getD t 0).toNat : Int))
  frozen : ∀ j, j < 24 → w.frozen? ⟨G, j, none⟩ = false

theorem Buf.store {w : World} {G q : Nat} {ds : List UInt8} (h : Buf w G (q + 1) ds) (d : UInt8) : Buf (w.setCell ⟨G, q, none⟩ (.int .u8 (d.toNat : Int))) G q (d :: ds) := by
  have hl := h.len
  refine ⟨by simp; omega, fun j hj => ?_, fun t ht => ?_, fun j hj => by rw [World.frozen?_setCell]; exact h.frozen j hj⟩
  · obtain ⟨n, hn⟩ := h.old j (by omega)
    exact ⟨n, by rw [World.cell?_setCell_other _ _ _ _ (by intro e; have h2 := congrArg Addr.off e; dsimp only at h2; omega)]; exact hn⟩
  · cases t with
    | zero =>
      obtain ⟨n, hn⟩ := h.old q (by omega)
      rw [Nat.add_zero, World.cell?_setCell_same w _ _ hn]; simp
    | succ t =>
      rw [World.cell?_setCell_other _ _ _ _ (by intro e; have h2 := congrArg Addr.off e; dsimp only at h2; omega), show q + (t + 1) = q + 1 + t from by omega, h.new t (by simpa using ht)]
      simp

def IRel (w : World) (u : Nat) (v i : Value) (wr : World) : Prop :=
  ∃ (r p : Nat) (ds : List UInt8), v = .int .i64 r ∧ i = .int .i64 p ∧ r * 10 ^ ds.length ≤ u ∧ tailD r ++ ds = Lib.decDigits u ∧ Buf wr w.heap.size p ds ∧ Below w.heap.size w wr

theorem irel_room {r u p : Nat} {ds : List UInt8} (hu : u ≤ 9223372036854775807) (h : r * 10 ^ ds.length ≤ u) (hr : 0 < r) (hl : p + ds.length = 24) : 5 ≤ p := by
  have h1 : 10 ^ ds.length ≤ u := Nat.le_trans (Nat.le_mul_of_pos_left _ hr) h
  have h2 : ds.length < 19 := by
    rcases Nat.lt_or_ge ds.length 19 with h3 | h3
    · exact h3
    · have := Nat.pow_le_pow_right (n := 10) (by omega) h3
      omega
  omega

theorem digit_eq (r : Nat) : 48 + (r : Int) % 10 = ((UInt8.ofNat (48 + r % 10)).toNat : Int) := by
  have e : (UInt8.ofNat (48 + r % 10)).toNat = 48 + r % 10 := by
    rw [UInt8.toNat_ofNat']; omega
  rw [e]
  omega

set_option maxHeartbeats 400000 in
theorem itoa_zero (w : World) : Calls Tryd.prog 10 #[.int .i64 0] w fun e w' => e = .returned (.string ⟨#[48]⟩) ∧ w = w' := by
  go_enter Tryd.func10, Tryd.ntmps10
  go_wp2
  go_ret
  exact ⟨rfl, rfl⟩

set_option maxHeartbeats 1000000 in
theorem itoa_pos (u : Nat) (hu0 : 0 < u) (hu : u ≤ 9223372036854775807) (w : World) : Calls Tryd.prog 10 #[.int .i64 u] w fun e w' => e = .returned (.string ⟨(Lib.decDigits u).toArray⟩) ∧ Below w.heap.size w w' := by
  have h0 : ((u : Int) == 0) = false := by simp; omega
  go_enter Tryd.func10, Tryd.ntmps10
  go_wp2
  go_loopw [0, 4] (fun v i wr => IRel w u v i wr) (fun v _ _ => (intOf v).toNat)
  case atStart =>
    refine ⟨u, 24, [], rfl, rfl, by simp, ?_, ⟨rfl, fun j hj => ?_, fun t ht => by simp at ht, fun j _ => ?_⟩, (Below.refl _ _).alloc (Nat.le_refl _) _⟩
    · unfold tailD; rw [if_neg (by omega)]; simp
    · refine ⟨0, ?_⟩
      rw [World.cell?_alloc_new]
      exact Lib.zeros24_at j hj
    · exact World.frozen?_alloc_new _ _ _ _
  case round =>
    obtain ⟨r, p, ds, rfl, rfl, hle, htl, hB, hnx⟩ := hrel
    by_cases hr : 0 < r
    · have hroom := irel_room hu hle hr hB.len
      obtain ⟨q, rfl⟩ : ∃ q, p = q + 1 := ⟨p - 1, by omega⟩
      have hq : q + 1 ≤ 24 := by have := hB.len; omega
      obtain ⟨n, hn⟩ := hB.old q (by omega)
      have hf := hB.frozen q (by omega)
      have HD : Hid _ := digit_eq r
      have hcast : ((q + 1 : Nat) : Int) - 1 = (q : Int) := by omega
      have hB2 := hB.store (UInt8.ofNat (48 + r % 10))
      have hrb : r ≤ u := Nat.le_trans (Nat.le_mul_of_pos_right _ (Nat.pos_of_ne_zero (by simp))) hle
      have hB3 : Below w.heap.size w (wr.setCell ⟨w.heap.size, q, none⟩ (.int .u8 (48 + (r : Int) % 10))) := hnx.setCell (Nat.le_refl _) _
      clear hB hnx
      go_wp2
      go_roundw
      case rel =>
        refine ⟨r / 10, q, UInt8.ofNat (48 + r % 10) :: ds, by go_num, rfl, ?_, ?_, by rw [HD.out]; exact hB2, hB3⟩
        · rw [List.length_cons, Nat.pow_succ, Nat.mul_comm (10 ^ ds.length) 10, ← Nat.mul_assoc]
          exact Nat.le_trans (Nat.mul_le_mul_right _ (Nat.div_mul_le_self r 10)) hle
        · rw [← htl, tailD_step hr]; simp
      case measure => simp [intOf]; omega
    · have hr0 : r = 0 := by omega
      subst hr0
      have HX : Hid (ds = Lib.decDigits u) := (show ds = Lib.decDigits u by simpa [tailD] using htl)
      have hdl : 1 ≤ ds.length := by rw [HX.out, Lib.decDigits_length]; exact Lib.nDigits_pos u
      have hl := hB.len
      clear htl
      have hsl : ∀ W, (Instr.sliceAt 37 (.pointer (some ⟨w.heap.size, 0, none⟩)) (some (.int .i64 (p : Int))) none none).run Tryd.prog W = .ok (.slice (some ⟨w.heap.size, p, none⟩) ds.length ds.length) W := fun W => by
        have hal : Tryd.prog.arrayLen 37 = 24 := by simp [Program.arrayLen, Tryd.underlying37]
        rw [run_sliceAt_array_l W 37 ⟨w.heap.size, 0, none⟩ (by simp [Program.arrayLen, Program.elem, Tryd.underlying37]) .i64 (p : Int) (by omega) (by rw [hal]; omega)]
        go_simp
        omega
      have hcv : (convert 38 9 (.slice (some ⟨w.heap.size, p, none⟩) ds.length ds.length)).run Tryd.prog wr = .ok (.string ⟨ds.toArray⟩) wr :=
        run_convert_bytes_back (P := Tryd.prog) wr 38 9 5 ⟨w.heap.size, p, none⟩ ds.length ds Tryd.underlying38 Tryd.underlying5 Tryd.underlying9 (fun j hj => by
          rw [Lib.add_plain, hB.new j hj]; simp [hj])
      clear hle hB
      go_wp2
      go_ret
      exact ⟨by rw [← HX.out]; rfl, hnx⟩

/-- zzItoa writes the decimal numeral. -/
theorem zzItoa_any (z : Int) (h0 : ¬ z < 0) (h1 : z ≤ 9223372036854775807) (w : World) : Calls Tryd.prog 10 #[.int .i64 z] w fun e w' => e = .returned (.string ⟨(Lib.itoa z).toArray⟩) ∧ Below w.heap.size w w' := by
  obtain ⟨u, rfl⟩ : ∃ u : Nat, z = u := ⟨z.toNat, by omega⟩
  rw [Lib.itoa_nonneg]
  rcases Nat.eq_zero_or_pos u with rfl | hu
  · refine (itoa_zero w).mono ?_
    rintro e w' ⟨rfl, rfl⟩
    refine ⟨?_, Below.refl _ _⟩
    rw [Lib.decDigits_one (by omega)]
    rfl
  · exact itoa_pos u hu (by omega) w

end Go.Proofs.Qxb6627489aDoor
