import Derived.Test.Qxb6627541aBase
namespace Go.Proofs.Qxb6627541a
open Go.RowKit

/-- What a test answers; if yes, ok. -/
def BPost (ok : Prop) (e : Ending) : Prop := ∃ x : Bool, e = .returned (.bool x) ∧ (x = true → ok)
theorem bpost_no {ok : Prop} {e : Ending} (h : e = .returned (.bool false)) : BPost ok e := ⟨false, h, by simp⟩
theorem bpost_yes {ok : Prop} {e : Ending} (h : e = .returned (.bool true)) (k : ok) : BPost ok e := ⟨true, h, fun _ => k⟩

set_option maxHeartbeats 1000000 in
theorem bytesB_any (a0 a1 a3 : Option Addr) (l0 l1 l3 c0 c1 c3 s : Nat) (w : World) (m0 : l0 ≤ maxLen) (m1 : l1 ≤ maxLen) (m3 : l3 ≤ maxLen) :
    Calls Try.prog 5 #[.slice a0 l0 c0, .slice a1 l1 c1, .float .f64 s, .slice a3 l3 c3] w fun e w' => BPost True e ∧ w = w' := by
  unfold maxLen at m0 m1 m3
  go_enter Try.func5, Try.ntmps5
  go_wp2
  all_goals go_ret
  all_goals first | exact ⟨bpost_no rfl, rfl⟩ | exact ⟨bpost_yes rfl trivial, rfl⟩

set_option maxHeartbeats 1000000 in
theorem bytesS_any (a0 a1 a3 : Option Addr) (l0 l1 l3 c0 c1 c3 s : Nat) (k : Int) (w : World) (m0 : l0 ≤ maxLen) (m1 : l1 ≤ maxLen) (m3 : l3 ≤ maxLen) :
    Calls Try.prog 15 #[.slice a0 l0 c0, .slice a1 l1 c1, .float .f64 s, .slice a3 l3 c3, .int .i64 k] w fun e w' => BPost True e ∧ w = w' := by
  unfold maxLen at m0 m1 m3
  go_enter Try.func15, Try.ntmps15
  go_wp2
  all_goals go_ret
  all_goals first | exact ⟨bpost_no rfl, rfl⟩ | exact ⟨bpost_yes rfl trivial, rfl⟩

theorem drew_ex {w wr : World} {m : Nat} (h : wr = w.drewN m) (k : Nat) : ∃ m', wr.drewN k = w.drewN m' := ⟨m + k, by rw [h, World.drewN_drewN]⟩
theorem drew_ex2 {w wr : World} {m : Nat} (h : wr = w.drewN m) (k l : Nat) : ∃ m', (wr.drewN k).drewN l = w.drewN m' := ⟨m + (k + l), by rw [h, World.drewN_drewN, World.drewN_drewN]⟩

/-- The ordering loop: as far as it has come the bounds never go down. -/
def ORel (w : World) (n : Nat) (bs : Nat → Nat) (i : Value) (wr : World) : Prop :=
  ∃ k : Nat, k ≤ n ∧ i = .int .i64 k ∧ (∀ j, j < k → j + 1 < n → leF (bs j) (bs (j + 1)) = true) ∧ ∃ m, wr = w.drewN m
def OPost (w : World) (n : Nat) (bs : Nat → Nat) (e : Ending) (w' : World) : Prop := BPost (Sorted bs n) e ∧ ∃ m, w' = w.drewN m

set_option maxHeartbeats 1000000 in
theorem ordered_any (B : Nat) (a : Option Addr) (n c : Nat) (bs : Nat → Nat) (w : World) (h : Flts w B a n bs) :
    Calls Try.prog 6 #[.slice a n c] w fun e w' => OPost w n bs e w' := by
  have m0 := h.len_le
  unfold maxLen at m0
  go_enter Try.func6, Try.ntmps6
  go_wp2
  go_loopw [3] (fun i wr => ORel w n bs i wr) (fun i _ => n - (intOf i).toNat)
  case atStart => exact ⟨0, Nat.zero_le _, rfl, fun j hj => by omega, 0, rfl⟩
  case round =>
    obtain ⟨k, hk, rfl, hs, m, hwr⟩ := hrel
    have HW : Hid (wr = w.drewN m) := hwr
    have HS : Hid (∀ j, j < k → j + 1 < n → leF (bs j) (bs (j + 1)) = true) := hs
    by_cases hlt : k < n
    · obtain ⟨b, o, hix, hcx, _⟩ := h.idx hlt c
      have e1 : wr.cell? ⟨b, o, none⟩ = some (.float .f64 (bs k)) := by rw [hwr]; exact hcx
      by_cases hnan : (FloatKind.f64.format.order (bs k) (bs k) != some .eq) = true
      · clear hcx hwr h hs
        go_wp2_with fail
        go_quiet (fail)
        go_wp2_with fail
        go_ret
        first | exact ⟨bpost_no rfl, drew_ex HW.out _⟩ | exact ⟨bpost_no rfl, drew_ex2 HW.out _ _⟩
      have hnan2 : (FloatKind.f64.format.order (bs k) (bs k) != some .eq) = false := by simpa using hnan
      clear hnan
      by_cases hl2 : k + 1 < n
      · obtain ⟨b2, o2, hix2, hcx2, _⟩ := h.idx hl2 c
        have e2 : wr.cell? ⟨b2, o2, none⟩ = some (.float .f64 (bs (k + 1))) := by rw [hwr]; exact hcx2
        have hcast : ((k + 1 : Nat) : Int) = (k : Int) + 1 := by omega
        rw [hcast] at hix2
        have hl3 : ((k : Int) + 1) < (n : Int) := by omega
        have hwrap : IntKind.i64.wrap ((k : Int) + 1) = (k : Int) + 1 := by rw [IntKind.wrap_i64]; omega
        cases hle : (FloatKind.f64.format.order (bs k) (bs (k + 1)) == some .lt || FloatKind.f64.format.order (bs k) (bs (k + 1)) == some .eq)
        · clear hcx hcx2 hwr h hs hcast
          go_wp2_with fail
          go_quiet (fail)
          go_wp2_with fail
          go_quiet (fail)
          go_wp2_with fail
          go_ret
          first | exact ⟨bpost_no rfl, drew_ex HW.out _⟩ | exact ⟨bpost_no rfl, drew_ex2 HW.out _ _⟩
        · have HLE : Hid (leF (bs k) (bs (k + 1)) = true) := hle
          clear hcx hcx2 hwr h hs hcast
          go_wp2_with fail
          go_quiet (fail)
          go_wp2_with fail
          go_quiet (fail)
          go_wp2_with fail
          go_roundw
          case rel =>
            refine ⟨k + 1, by omega, by go_num, fun j hj hj2 => ?_, drew_ex HW.out _⟩
            by_cases e : j = k
            · subst e; exact HLE.out
            · exact HS.out j (by omega) hj2
          case measure => simp [intOf]; omega
      · have hl3 : decide (((k : Int) + 1) < (n : Int)) = false := by simp; omega
        have hwrap : IntKind.i64.wrap ((k : Int) + 1) = (k : Int) + 1 := by rw [IntKind.wrap_i64]; omega
        clear hcx hwr h hs
        go_wp2_with fail
        go_quiet (fail)
        go_wp2_with fail
        go_quiet (fail)
        go_wp2_with fail
        go_roundw
        case rel =>
          exact ⟨k + 1, by omega, by go_num, fun j hj hj2 => HS.out j (by omega) hj2, drew_ex HW.out _⟩
        case measure => simp [intOf]; omega
    · clear hwr
      go_wp2_with fail
      go_ret
      exact ⟨bpost_yes rfl (fun j hj => HS.out j (by omega) hj), m, HW.out⟩

set_option maxHeartbeats 400000 in
theorem newHist_any (a0 a1 : Option Addr) (l0 l1 c0 c1 s : Nat) (w : World) : Calls Try.prog 10 #[.slice a0 l0 c0, .slice a1 l1 c1, .float .f64 s] w fun e w' => e = .returned (.pointer (some ⟨w.heap.size, 0, none⟩)) ∧ w.alloc (.cells #[.slice a0 l0 c0, .slice a1 l1 c1, .float .f64 s] 39) = w' := by
  go_enter Try.func10, Try.ntmps10
  go_wp2
  go_ret
  exact ⟨rfl, rfl⟩

set_option maxHeartbeats 400000 in
theorem counts_any {w : World} {B C hb G : Nat} {ab : Option Addr} {n cb cc : Nat} {bs : Nat → Nat} {cs : Nat → Int} {s : Nat} (h : Hist w B C hb G ab n cb cc bs cs s) : Calls Try.prog 12 #[.pointer (some ⟨hb, 0, none⟩)] w fun e w' => e = .returned (.slice (some ⟨G, 0, none⟩) (n + 1) cc) ∧ w = w' := by
  have h1 := h.c1
  clear h
  go_enter Try.func12, Try.ntmps12
  go_wp2
  go_ret
  exact ⟨rfl, rfl⟩

set_option maxHeartbeats 400000 in
theorem sum_any {w : World} {B C hb G : Nat} {ab : Option Addr} {n cb cc : Nat} {bs : Nat → Nat} {cs : Nat → Int} {s : Nat} (h : Hist w B C hb G ab n cb cc bs cs s) : Calls Try.prog 14 #[.pointer (some ⟨hb, 0, none⟩)] w fun e w' => e = .returned (.float .f64 s) ∧ w = w' := by
  have h1 := h.c2
  clear h
  go_enter Try.func14, Try.ntmps14
  go_wp2
  go_ret
  exact ⟨rfl, rfl⟩

set_option maxHeartbeats 400000 in
theorem same_any {a b : Nat} (h : Same a b) (w : World) : Calls Try.prog 13 #[.float .f64 a, .float .f64 b] w fun e w' => e = .returned (.bool true) ∧ w = w' := by
  by_cases hn : nanF a = true
  · have hb : nanF b = true := by
      rcases h with rfl | ⟨_, hb⟩
      · exact hn
      · exact hb
    have e1 := ord_nan (b := b) hn
    have e2 := ord_nan (b := a) hn
    have e3 := ord_nan (b := b) hb
    clear h hn hb
    go_enter Try.func13, Try.ntmps13
    go_wp2
    go_ret
    exact ⟨rfl, rfl⟩
  · have hn2 : nanF a = false := by simpa using hn
    have hab : a = b := by
      rcases h with rfl | ⟨ha, _⟩
      · rfl
      · exact absurd ha hn
    subst hab
    have e1 := ord_self hn2
    clear h hn hn2
    go_enter Try.func13, Try.ntmps13
    go_wp2
    go_ret
    exact ⟨rfl, rfl⟩

/-- The counting loop of metricsBucketOf. -/
def NRel (n : Nat) (bs : Nat → Nat) (v : Nat) (t i : Value) : Prop := ∃ k : Nat, k ≤ n ∧ i = .int .i64 k ∧ t = .int .i64 (nlt bs v k)

set_option maxHeartbeats 1000000 in
theorem bucketOf_any (B : Nat) (a : Option Addr) (n c : Nat) (bs : Nat → Nat) (v : Nat) (w : World) (h : Flts w B a n bs) :
    Calls Try.prog 9 #[.slice a n c, .float .f64 v] w fun e w' => e = .returned (.int .i64 (nlt bs v n)) ∧ w = w' := by
  have m0 := h.len_le
  unfold maxLen at m0
  go_enter Try.func9, Try.ntmps9
  go_wp2
  go_loop [5, 6] (fun t i => NRel n bs v t i) (fun _ i => n - (intOf i).toNat)
  case atStart => exact ⟨0, Nat.zero_le _, rfl, rfl⟩
  case round =>
    obtain ⟨k, hk, rfl, rfl⟩ := hrel
    have hnl := nlt_le bs v k
    by_cases hlt : k < n
    · obtain ⟨b, o, hix, hcx, _⟩ := h.idx hlt c
      cases hl : (FloatKind.f64.format.order (bs k) v == some .lt)
      · have HS : Hid (nlt bs v (k + 1) = nlt bs v k) := by
          show nlt bs v k + (if ltF (bs k) v = true then 1 else 0) = _
          rw [if_neg (by unfold ltF; rw [hl]; simp)]; rfl
        clear h
        go_wp2
        go_round
        case rel => exact ⟨k + 1, by omega, by go_num, by rw [HS.out]⟩
        case measure => simp [intOf]; omega
      · have HS : Hid (nlt bs v (k + 1) = nlt bs v k + 1) := by
          show nlt bs v k + (if ltF (bs k) v = true then 1 else 0) = _
          rw [if_pos (by unfold ltF; exact hl)]
        clear h
        go_wp2
        go_round
        case rel => exact ⟨k + 1, by omega, by go_num, by rw [HS.out]; go_num⟩
        case measure => simp [intOf]; omega
    · obtain rfl : n = k := by omega
      go_wp2
      go_ret
      exact ⟨rfl, rfl⟩

end Go.Proofs.Qxb6627541a
