import Derived.Test.Qxb6627489aDoorSteps
namespace Go.Proofs.Qxb6627489aDoor
open Go.RowKit

/-- The counting loop's relation: the sum so far is within the bound; the counter within the length. -/
def BRel (l : Nat) (t i : Value) : Prop := ∃ (x : Int) (k : Nat), 0 ≤ x ∧ x ≤ 1048576 ∧ t = .int .i64 x ∧ k ≤ l ∧ i = .int .i64 k
theorem brel_mk {l k : Nat} {x : Int} (h0 : 0 ≤ x) (h1 : x ≤ 1048576) (h2 : k ≤ l) : BRel l (.int .i64 x) (.int .i64 (k : Int)) := ⟨x, k, h0, h1, rfl, h2, rfl⟩
theorem brel_next {l k : Nat} {x : Int} (h0 : 0 ≤ x) (h1 : x ≤ 1048576) (h2 : k < l) : BRel l (.int .i64 x) (.int .i64 ((k : Int) + 1)) := ⟨x, k + 1, h0, h1, rfl, h2, by go_num⟩
/-- What the size check answers; if yes, every length is within the bound. -/
def BPost (ok : Prop) (e : Ending) : Prop := ∃ x : Bool, e = .returned (.bool x) ∧ (x = true → ok)
theorem bpost_no {ok : Prop} {e : Ending} (h : e = .returned (.bool false)) : BPost ok e := ⟨false, h, by simp⟩
theorem bpost_yes {ok : Prop} {e : Ending} (h : e = .returned (.bool true)) (k : ok) : BPost ok e := ⟨true, h, fun _ => k⟩

set_option maxHeartbeats 1000000 in
theorem bytesM_any (a0 a1 : Option Addr) (l0 l1 c0 c1 : Nat) (f : Int) (s0 : Nat → ByteArray) (w : World) (h0 : Strs w a0 l0 s0) (m1 : l1 ≤ maxLen) :
    Calls Tryd.prog 5 #[.slice a0 l0 c0, .slice a1 l1 c1, .int .i64 f] w fun e w' => BPost (l0 ≤ 1048576 ∧ l1 ≤ 1048576) e ∧ w = w' := by
  have m0 := h0.len_le
  unfold maxLen at m0 m1
  by_cases b0 : (1048576 : Int) < l0
  · go_enter Tryd.func5, Tryd.ntmps5
    go_wp2
    go_ret
    exact ⟨bpost_no rfl, rfl⟩
  go_enter Tryd.func5, Tryd.ntmps5
  go_wp2
  go_loop [7, 8] (fun t i => BRel l0 t i) (fun _ i => l0 - (intOf i).toNat)
  case atStart => exact brel_mk (k := 0) (by omega) (by omega) (by omega)
  case round =>
    obtain ⟨x, k, hx0, hx1, rfl, hk, rfl⟩ := hrel
    by_cases hlt : k < l0
    · obtain ⟨b, o, hix, hcx, _⟩ := h0.idx hlt c0
      go_wp2
      all_goals first
        | (go_ret; exact ⟨bpost_no rfl, rfl⟩)
        | (go_round
           case rel => exact brel_next (by omega) (by omega) hlt
           case measure => simp [intOf]; omega)
    · clear h0
      by_cases b1 : (1048576 : Int) < l1
      · go_wp2
        go_ret
        exact ⟨bpost_no rfl, rfl⟩
      by_cases b1' : 1048576 < x + l1
      · go_wp2
        go_ret
        exact ⟨bpost_no rfl, rfl⟩
      go_wp2
      go_ret
      exact ⟨bpost_yes rfl (by omega), rfl⟩

set_option maxHeartbeats 1000000 in
theorem bytesS_any (a0 a1 : Option Addr) (l0 l1 c0 c1 : Nat) (f : Int) (s0 : Nat → ByteArray) (w : World) (h0 : Strs w a0 l0 s0) (m1 : l1 ≤ maxLen) :
    Calls Tryd.prog 11 #[.slice a0 l0 c0, .slice a1 l1 c1, .int .i64 f] w fun e w' => BPost (l0 ≤ 1048576 ∧ l1 ≤ 1048576) e ∧ w = w' := by
  have m0 := h0.len_le
  unfold maxLen at m0 m1
  by_cases b0 : (1048576 : Int) < l0
  · go_enter Tryd.func11, Tryd.ntmps11
    go_wp2
    go_ret
    exact ⟨bpost_no rfl, rfl⟩
  go_enter Tryd.func11, Tryd.ntmps11
  go_wp2
  go_loop [7, 8] (fun t i => BRel l0 t i) (fun _ i => l0 - (intOf i).toNat)
  case atStart => exact brel_mk (k := 0) (by omega) (by omega) (by omega)
  case round =>
    obtain ⟨x, k, hx0, hx1, rfl, hk, rfl⟩ := hrel
    by_cases hlt : k < l0
    · obtain ⟨b, o, hix, hcx, _⟩ := h0.idx hlt c0
      go_wp2
      all_goals first
        | (go_ret; exact ⟨bpost_no rfl, rfl⟩)
        | (go_round
           case rel => exact brel_next (by omega) (by omega) hlt
           case measure => simp [intOf]; omega)
    · clear h0
      by_cases b1 : (1048576 : Int) < l1
      · go_wp2
        go_ret
        exact ⟨bpost_no rfl, rfl⟩
      by_cases b1' : 1048576 < x + l1
      · go_wp2
        go_ret
        exact ⟨bpost_no rfl, rfl⟩
      go_wp2
      go_ret
      exact ⟨bpost_yes rfl (by omega), rfl⟩

set_option maxHeartbeats 400000 in
theorem steps_nil (B n : Nat) (hn : n ≤ 65536) (ss : Nat → ByteArray) (zs : Nat → Int) (w : World) (h : Chain w B n ss zs) :
    Calls Tryd.prog 9 #[.agg #[.pointer (lastOf B n), .int .i64 n]] w fun e w' => e = .returned (.slice none 0 0) ∧ Below w.heap.size w w' := by
  have hlen := fun w h => len_L B n n 0 rfl hn ss zs w h
  obtain ⟨la, hla⟩ : ∃ la, lastOf B n = la := ⟨_, rfl⟩
  rw [hla] at hlen ⊢
  clear hla
  go_enter Tryd.func9, Tryd.ntmps9
  go_wp2_with fail
  refine (hlen _ (h.below ((Below.refl _ _).alloc (Nat.le_refl _) _))).mono ?_
  rintro e w1 ⟨rfl, hb⟩
  have B1 : Below w.heap.size w w1 := ((Below.refl _ _).alloc (Nat.le_refl _) _).trans (hb.mono (by simp))
  clear hb hlen
  go_wp2_with fail
  go_ret
  exact ⟨rfl, B1⟩

theorem brk_size (s : ByteArray) : (brk s).size = s.size + 2 := by
  unfold brk
  rw [ByteArray.size_append, ByteArray.size_append]
  show (1 : Nat) + s.size + 1 = _
  omega

/-- What Steps hands back: the texts from step f on; nil where there is none. -/
def StepsPost (w : World) (L f : Nat) (ss : Nat → ByteArray) (zs : Nat → Int) (e : Ending) (w' : World) : Prop :=
  ∃ a : Option Addr, e = .returned (.slice a L L) ∧ Strs w' a L (fun j => txt (ss (f + j)) (zs (f + j))) ∧ a.isNone = decide (L = 0) ∧ Below w.heap.size w w'

theorem steps_any (B n f L : Nat) (hL : n = f + L) (hn : n ≤ 65536) (ss : Nat → ByteArray) (zs : Nat → Int) (hs : ∀ j, j < n → (ss j).size ≤ maxLen) (hz : ∀ j, j < n → zs j ≤ 9223372036854775807) (w : World) (h : Chain w B n ss zs) (ht : Tab w) :
    Calls Tryd.prog 9 #[.agg #[.pointer (lastOf B n), .int .i64 f]] w fun e w' => StepsPost w L f ss zs e w' := by
  by_cases hL0 : L = 0
  · subst hL0
    obtain rfl : n = f := hL
    refine (steps_nil B n hn ss zs w h).mono ?_
    rintro e w' ⟨rfl, hb⟩
    exact ⟨none, rfl, ⟨fun j hj => by omega, fun hj => by omega, Nat.zero_le _⟩, rfl, hb⟩
  · refine (steps_some B n f L hL (by omega) hn ss zs hz w h ht).mono ?_
    rintro e w' ⟨G, rfl, hG, F, hb⟩
    refine ⟨_, rfl, ⟨fun j hj => ?_, fun _ => ⟨G, 0, rfl, F.lt, fun j hj => ?_⟩, by unfold maxLen; omega⟩, by simp [hL0], hb⟩
    · show (txt (ss (f + j)) (zs (f + j))).size ≤ maxLen
      unfold txt
      split
      · exact hs _ (by omega)
      · have := itoa_size (zs (f + j)) (by omega) (hz _ (by omega))
        rw [brk_size]; unfold maxLen; omega
    · have := F.cell j hj
      simpa using this

end Go.Proofs.Qxb6627489aDoor
