import Derived.Test.Qxb6627451aSize
namespace Go.Proofs.Qxb6627451a
open Go.RowKit Go.Maps

/-- The counting loop's relation: the sum so far is within the bound; the counter within the length. -/
def BRel (l : Nat) (t i : Value) : Prop := ∃ (x : Int) (k : Nat), 0 ≤ x ∧ x ≤ 1048576 ∧ t = .int .i64 x ∧ k ≤ l ∧ i = .int .i64 k
theorem brel_mk {l k : Nat} {x : Int} (h0 : 0 ≤ x) (h1 : x ≤ 1048576) (h2 : k ≤ l) : BRel l (.int .i64 x) (.int .i64 (k : Int)) := ⟨x, k, h0, h1, rfl, h2, rfl⟩
theorem brel_next {l k : Nat} {x : Int} (h0 : 0 ≤ x) (h1 : x ≤ 1048576) (h2 : k < l) : BRel l (.int .i64 x) (.int .i64 ((k : Int) + 1)) := ⟨x, k + 1, h0, h1, rfl, h2, by go_num⟩

/-- What the size check answers; if yes, every length is within the bound. -/
def BPost (ok : Prop) (e : Ending) : Prop := ∃ x : Bool, e = .returned (.bool x) ∧ (x = true → ok)
theorem bpost_no {ok : Prop} {e : Ending} (h : e = .returned (.bool false)) : BPost ok e := ⟨false, h, by simp⟩
theorem bpost_yes {ok : Prop} {e : Ending} (h : e = .returned (.bool true)) (k : ok) : BPost ok e := ⟨true, h, fun _ => k⟩

set_option maxHeartbeats 1000000 in
theorem bytes_any (a0 a1 a2 a3 : Option Addr) (l0 l1 l2 l3 c0 c1 c2 c3 : Nat) (s0 s2 : Nat → ByteArray) (w : World) (h0 : Strs w a0 l0 s0) (h2 : Strs w a2 l2 s2) (m1 : l1 ≤ maxLen) (m3 : l3 ≤ maxLen) :
    Calls Try.prog 5 #[.slice a0 l0 c0, .slice a1 l1 c1, .slice a2 l2 c2, .slice a3 l3 c3] w fun e w' => BPost (l0 ≤ 1048576 ∧ l1 ≤ 1048576 ∧ l2 ≤ 1048576 ∧ l3 ≤ 1048576) e ∧ w = w' := by
  have m0 := h0.len_le
  have m2 := h2.len_le
  unfold maxLen at m0 m1 m2 m3
  by_cases b0 : (1048576 : Int) < l0
  · go_enter Try.func5, Try.ntmps5
    go_wp2
    go_ret
    exact ⟨bpost_no rfl, rfl⟩
  go_enter Try.func5, Try.ntmps5
  go_wp2
  go_loop [9, 10] (fun t i => BRel l0 t i) (fun _ i => l0 - (intOf i).toNat)
  case atStart => exact brel_mk (k := 0) (by omega) (by omega) (by omega)
  case round =>
    obtain ⟨x, k, hx0, hx1, rfl, hk, rfl⟩ := hrel
    by_cases hlt : k < l0
    · obtain ⟨b, o, hix, hcx, _⟩ := h0.idx hlt c0
      clear h2
      go_wp2
      all_goals first
        | (go_ret; exact ⟨bpost_no rfl, rfl⟩)
        | (go_round
           case rel => exact brel_next (by omega) (by omega) hlt
           case measure => simp [intOf]; omega)
    · clear h0
      by_cases b1 : (1048576 : Int) < l1
      · go_wp2
        go_ret
        exact ⟨bpost_no rfl, rfl⟩
      by_cases b1' : 1048576 < x + l1
      · go_wp2
        go_ret
        exact ⟨bpost_no rfl, rfl⟩
      by_cases b2 : (1048576 : Int) < l2
      · go_wp2
        go_ret
        exact ⟨bpost_no rfl, rfl⟩
      by_cases b2' : 1048576 < x + l1 + l2
      · go_wp2
        go_ret
        exact ⟨bpost_no rfl, rfl⟩
      go_wp2
      go_loop [9, 11] (fun t i => BRel l2 t i) (fun _ i => l2 - (intOf i).toNat)
      case atStart => exact brel_mk (k := 0) (by omega) (by omega) (by omega)
      case round =>
        obtain ⟨y, j, hy0, hy1, rfl, hj, rfl⟩ := hrel
        by_cases hlt2 : j < l2
        · obtain ⟨b, o, hix, hcx, _⟩ := h2.idx hlt2 c2
          go_wp2
          all_goals first
            | (go_ret; exact ⟨bpost_no rfl, rfl⟩)
            | (go_round
               case rel => exact brel_next (by omega) (by omega) hlt2
               case measure => simp [intOf]; omega)
        · clear h2
          go_wp2
          all_goals go_ret
          all_goals first | exact ⟨bpost_no rfl, rfl⟩ | exact ⟨bpost_yes rfl (by omega), rfl⟩

end Go.Proofs.Qxb6627451a
