import Derived.Test.Qxb6627451aBytes
namespace Go.Proofs.Qxb6627451a
open Go.RowKit Go.Maps

set_option maxHeartbeats 2000000 in
theorem bytesB_any (a0 a1 a2 a3 a4 a5 : Option Addr) (l0 l1 l2 l3 l4 l5 c0 c1 c2 c3 c4 c5 : Nat) (s0 s2 s4 : Nat → ByteArray) (w : World) (h0 : Strs w a0 l0 s0) (h2 : Strs w a2 l2 s2) (h4 : Strs w a4 l4 s4) (m1 : l1 ≤ maxLen) (m3 : l3 ≤ maxLen) (m5 : l5 ≤ maxLen) :
    Calls Try.prog 12 #[.slice a0 l0 c0, .slice a1 l1 c1, .slice a2 l2 c2, .slice a3 l3 c3, .slice a4 l4 c4, .slice a5 l5 c5] w fun e w' => BPost (l0 ≤ 1048576 ∧ l1 ≤ 1048576 ∧ l2 ≤ 1048576 ∧ l3 ≤ 1048576 ∧ l4 ≤ 1048576 ∧ l5 ≤ 1048576) e ∧ w = w' := by
  have m0 := h0.len_le
  have m2 := h2.len_le
  have m4 := h4.len_le
  unfold maxLen at m0 m1 m2 m3 m4 m5
  by_cases b0 : (1048576 : Int) < l0
  · go_enter Try.func12, Try.ntmps12
    go_wp2
    go_ret
    exact ⟨bpost_no rfl, rfl⟩
  go_enter Try.func12, Try.ntmps12
  go_wp2
  go_loop [13, 14] (fun t i => BRel l0 t i) (fun _ i => l0 - (intOf i).toNat)
  case atStart => exact brel_mk (k := 0) (by omega) (by omega) (by omega)
  case round =>
    obtain ⟨x, k, hx0, hx1, rfl, hk, rfl⟩ := hrel
    by_cases hltk : k < l0
    · obtain ⟨b, o, hix, hcx, _⟩ := h0.idx hltk c0
      clear h2 h4
      go_wp2
      all_goals first
        | (go_ret; exact ⟨bpost_no rfl, rfl⟩)
        | (go_round
           case rel => exact brel_next (by omega) (by omega) hltk
           case measure => simp [intOf]; omega)
    · clear h0
      by_cases b1 : (1048576 : Int) < l1
      · go_wp2
        go_ret
        exact ⟨bpost_no rfl, rfl⟩
      by_cases b1' : 1048576 < x + l1
      · go_wp2
        go_ret
        exact ⟨bpost_no rfl, rfl⟩
      by_cases b2 : (1048576 : Int) < l2
      · go_wp2
        go_ret
        exact ⟨bpost_no rfl, rfl⟩
      by_cases b2' : 1048576 < x + l1 + l2
      · go_wp2
        go_ret
        exact ⟨bpost_no rfl, rfl⟩
      go_wp2
      go_loop [13, 15] (fun t i => BRel l2 t i) (fun _ i => l2 - (intOf i).toNat)
      case atStart => exact brel_mk (k := 0) (by omega) (by omega) (by omega)
      case round =>
        obtain ⟨y, j, hy0, hy1, rfl, hj, rfl⟩ := hrel
        by_cases hltj : j < l2
        · obtain ⟨b, o, hix, hcx, _⟩ := h2.idx hltj c2
          clear h4
          go_wp2
          all_goals first
            | (go_ret; exact ⟨bpost_no rfl, rfl⟩)
            | (go_round
               case rel => exact brel_next (by omega) (by omega) hltj
               case measure => simp [intOf]; omega)
        · clear h2
          by_cases b3 : (1048576 : Int) < l3
          · go_wp2
            go_ret
            exact ⟨bpost_no rfl, rfl⟩
          by_cases b3' : 1048576 < y + l3
          · go_wp2
            go_ret
            exact ⟨bpost_no rfl, rfl⟩
          by_cases b4 : (1048576 : Int) < l4
          · go_wp2
            go_ret
            exact ⟨bpost_no rfl, rfl⟩
          by_cases b4' : 1048576 < y + l3 + l4
          · go_wp2
            go_ret
            exact ⟨bpost_no rfl, rfl⟩
          go_wp2
          go_loop [13, 16] (fun t i => BRel l4 t i) (fun _ i => l4 - (intOf i).toNat)
          case atStart => exact brel_mk (k := 0) (by omega) (by omega) (by omega)
          case round =>
            obtain ⟨v, i, hv0, hv1, rfl, hi, rfl⟩ := hrel
            by_cases hlti : i < l4
            · obtain ⟨b, o, hix, hcx, _⟩ := h4.idx hlti c4
              go_wp2
              all_goals first
                | (go_ret; exact ⟨bpost_no rfl, rfl⟩)
                | (go_round
                   case rel => exact brel_next (by omega) (by omega) hlti
                   case measure => simp [intOf]; omega)
            · clear h4
              go_wp2
              all_goals go_ret
              all_goals first | exact ⟨bpost_no rfl, rfl⟩ | exact ⟨bpost_yes rfl (by omega), rfl⟩

end Go.Proofs.Qxb6627451a
