import Derived.Test.Qxb6627578aFmtBase
namespace Go.Proofs.Qxb6627578aFmt
open Go.RowKit Go.Extern.Stop Go.Stop Go.Extern

set_option maxHeartbeats 1000000 in
theorem parse_spare (B : Nat) (a : Option Addr) (m c p r : Nat) (zs : Nat → Int) (w : World) (h : Byts w B a (m + 1) zs) (hp : p ≤ 1073741824) (hn : m + 1 = (p + 7) / 8) (hr : (p : Int) % 8 = (r : Int)) (h0 : 0 < r)
    (y : Int) (hy : IntKind.u8.wrap (zs m * 2 ^ r) = y) (hy0 : (y != 0) = true) :
    Calls Tryf.prog 6 #[.slice a (m + 1) c, .int .i64 p] w fun e w' => Refused w e w' := by
  have hne : ((m : Int) + 1 != ((p : Int) + 7) / 8) = false := by simp; omega
  obtain ⟨b, o, hix, hcx, _⟩ := h.idx (k := m) (by omega) c
  have hr8 : r < 8 := by omega
  have hm : m ≤ 134217728 := by omega
  have hrd : ((r : Int) != 0) = true := by simp; omega
  clear h hn
  go_enter Tryf.func6, Tryf.ntmps6
  go_wp2
  go_ret2
  exact ⟨_, rfl, (Below.refl _ _).alloc (Nat.le_refl _) _⟩

/-- What an acceptance is: a copy; no error. -/
def Taken (w : World) (n : Nat) (zs : Nat → Int) (e : Ending) (w' : World) : Prop := ∃ a c, e = .returned (.tuple #[.slice a n c, .nilIface]) ∧ Byts w' w'.heap.size a n zs ∧ Below w.heap.size w w'

/-- bytes.Clone, told as the walks want it. -/
def CopyPost (w : World) (n : Nat) (zs : Nat → Int) (e : Ending) (w' : World) : Prop := ∃ a c, e = .returned (.slice a n c) ∧ Byts w' w'.heap.size a n zs ∧ Below w.heap.size w w'
theorem copy_any (a : Option Addr) (n c : Nat) (zs : Nat → Int) (w : World) (h : Byts w w.heap.size a n zs) (hbg : n ≤ 134217729) : Calls Tryf.prog 10 #[.slice a n c] w fun e w' => CopyPost w n zs e w' := by
  cases a with
  | none =>
    have h0 : n = 0 := by
      rcases Nat.eq_zero_or_pos n with h0 | h0
      · exact h0
      · obtain ⟨b, off, ha, _⟩ := h.cells h0; cases ha
    subst h0
    refine (Tryf.bytes_Clone_nil 0 c w).mono ?_
    rintro e w' ⟨rfl, rfl⟩
    exact ⟨none, 0, rfl, ⟨fun j hj => by omega, fun h => by omega, Nat.zero_le _⟩, Below.refl _ _⟩
  | some x =>
    have hg : ∀ i, i < n → ((List.range n).map zs).getD i 0 = zs i := fun i hi => by simp [List.getD, hi]
    refine (Tryf.bytes_Clone_at x n c ((List.range n).map zs) w (by simp) (by omega) (fun i hi => ?_)).mono ?_
    · obtain ⟨b, off, hx, _, hc⟩ := h.cells (by omega)
      cases hx
      rw [WideShapes.add_plain, hg i hi]
      exact hc i hi
    · rintro e w' ⟨v, rfl, ⟨hlen, hown⟩, hv, hb⟩
      rcases hown with ⟨rfl, h0⟩ | ⟨g, cap, cur, rfl, hg1, hg2, hnc, hcap, hsz, htk⟩
      · exact absurd rfl hv
      · refine ⟨_, _, rfl, ⟨h.bd, fun h0 => ⟨g, 0, rfl, ?_, fun j hj => ?_⟩, h.len_le⟩, hb⟩
        · exact (Array.getElem?_eq_some_iff.1 hg2).1
        · have hj2 : (cur.toList.take (n * 1))[j]? = some (.int .u8 (zs j)) := by
            rw [htk]; simp [hj]
          rw [List.getElem?_take, if_pos (by omega)] at hj2
          simp [World.cell?, hg2]
          simpa using hj2

set_option maxHeartbeats 1000000 in
theorem parse_even (a : Option Addr) (n c p : Nat) (zs : Nat → Int) (w : World) (h : Byts w w.heap.size a n zs) (hp : p ≤ 1073741824) (hn : n = (p + 7) / 8) (hr : (p : Int) % 8 = 0) :
    Calls Tryf.prog 6 #[.slice a n c, .int .i64 p] w fun e w' => Taken w n zs e w' := by
  have hne : ((n : Int) != ((p : Int) + 7) / 8) = false := by simp; omega
  have hm : n ≤ 134217728 := by omega
  clear hn
  go_enter Tryf.func6, Tryf.ntmps6
  go_wp2_with fail
  refine (copy_any a n c zs w h (by omega)).mono ?_
  rintro e w' ⟨a', c', rfl, H, B⟩
  go_wp2
  go_ret2
  exact ⟨_, _, rfl, H, B⟩

set_option maxHeartbeats 1000000 in
theorem parse_odd (a : Option Addr) (m c p r : Nat) (zs : Nat → Int) (w : World) (h : Byts w w.heap.size a (m + 1) zs) (hp : p ≤ 1073741824) (hn : m + 1 = (p + 7) / 8) (hr : (p : Int) % 8 = (r : Int)) (h0 : 0 < r)
    (hy : IntKind.u8.wrap (zs m * 2 ^ r) = 0) :
    Calls Tryf.prog 6 #[.slice a (m + 1) c, .int .i64 p] w fun e w' => Taken w (m + 1) zs e w' := by
  have hne : ((m : Int) + 1 != ((p : Int) + 7) / 8) = false := by simp; omega
  obtain ⟨b, o, hix, hcx, _⟩ := h.idx (k := m) (by omega) c
  have hr8 : r < 8 := by omega
  have hm : m ≤ 134217728 := by omega
  have hrd : ((r : Int) != 0) = true := by simp; omega
  clear hn
  go_enter Tryf.func6, Tryf.ntmps6
  go_wp2_with fail
  refine (copy_any a (m + 1) c zs w h (by omega)).mono ?_
  rintro e w' ⟨a', c', rfl, H, B⟩
  go_wp2
  go_ret2
  exact ⟨_, _, rfl, H, B⟩

end Go.Proofs.Qxb6627578aFmt
