import Derived.Test.Qxb6627451aBase
namespace Go.Proofs.Qxb6627451a
open Go.RowKit Go.Maps

def mx (a b : Int) : Int := if b < a then a else b

set_option maxHeartbeats 400000 in
theorem max_any (a b : Int) (w : World) : Calls Try.prog 18 #[.int .u64 a, .int .u64 b] w fun e w' => e = .returned (.int .u64 (mx a b)) ∧ w = w' := by
  by_cases h : b < a
  · have e : mx a b = a := by simp [mx, h]
    rw [e]; clear e
    go_enter Try.func18, Try.ntmps18
    go_wp2
    go_ret
    exact ⟨rfl, rfl⟩
  · have e : mx a b = b := by simp [mx, h]
    rw [e]; clear e
    go_enter Try.func18, Try.ntmps18
    go_wp2
    go_ret
    exact ⟨rfl, rfl⟩

set_option maxHeartbeats 400000 in
theorem pairs_any (a a' : Option Addr) (len len' cap cap' : Nat) (w : World) :
    Calls Try.prog 13 #[.slice a len cap, .slice a' len' cap'] w fun e w' => e = .returned (.int .i64 ((min len len' : Nat) : Int)) ∧ w = w' := by
  by_cases h : (len : Int) < (len' : Int)
  · have e : min len len' = len := by omega
    rw [e]; clear e
    go_enter Try.func13, Try.ntmps13
    go_wp2
    go_ret
    exact ⟨rfl, rfl⟩
  · have e : min len len' = len' := by omega
    rw [e]; clear e
    go_enter Try.func13, Try.ntmps13
    go_wp2
    go_ret
    exact ⟨rfl, rfl⟩

set_option maxHeartbeats 400000 in
theorem has_true {w : World} {r : Option Nat} {n : Nat} {D : DataW Unit} (hc : Clk w r n D) {s : ByteArray} (hs : s.size ≤ maxLen) {want : Int} (h1 : Maps.has D (ky s) = true) (h2 : val D (ky s) = want) :
    Calls Try.prog 14 #[.map r, .string s, .int .u64 want] w fun e w' => e = .returned (.bool true) ∧ w = w' := by
  have hl := hc.look_ok hs
  rw [h1, h2] at hl
  clear h1 h2 hc
  go_enter Try.func14, Try.ntmps14
  go_wp2
  go_ret
  exact ⟨rfl, rfl⟩

set_option maxHeartbeats 400000 in
theorem words_any (acc n : Int) (w : World) : Calls Try.prog 16 #[.int .i64 acc, .int .i64 n] w fun e w' => (∃ x, e = .returned (.int .i64 x)) ∧ w = w' := by
  go_enter Try.func16, Try.ntmps16
  go_wp2
  all_goals go_ret
  all_goals exact ⟨⟨_, rfl⟩, rfl⟩

end Go.Proofs.Qxb6627451a
