import Derived.Test.Qxb6627451aBytes
import Derived.Test.Qxb6627451aBuild
import Derived.Test.Qxb6627451aUnion
import Derived.Test.Qxb6627451aMerge
import Derived.Test.Qxb6627451aAll
import Derived.Test.Qxb6627451aSame
namespace Go.Proofs.Qxb6627451a
open Go.RowKit Go.Maps

/-- Two maps with the same keys have one size. -/
theorem size_of_has {D1 D2 : DataW Unit} (c1 : Canon D1) (c2 : Canon D2) (h : ∀ x, Maps.has D1 x = Maps.has D2 x) : Maps.size D1 = Maps.size D2 := by
  obtain ⟨e1, rfl, s1, k1⟩ := c1
  obtain ⟨e2, rfl, s2, k2⟩ := c2
  have mem : ∀ {ea eb : List (Lit × DataW Unit)}, (∀ p ∈ ea, WideAt.IsKeyLit p.1) → (∀ x, Maps.has (.map ea) x = Maps.has (.map eb) x) → ∀ p : Lit × DataW Unit, p ∈ ea.map (fun p => (p.1, (.nil : DataW Unit))) → p ∈ eb.map (fun p => (p.1, (.nil : DataW Unit))) := by
    intro ea eb ka hh p hp
    obtain ⟨q, hq, rfl⟩ := List.mem_map.1 hp
    have h1 : Maps.has (.map ea) q.1 = true := List.any_eq_true.2 ⟨q, hq, WideAt.sameKey_self (ka q hq)⟩
    rw [hh] at h1
    obtain ⟨q', hq', hs⟩ := List.any_eq_true.1 h1
    exact List.mem_map.2 ⟨q', hq', by rw [WideAt.sameKey_eq hs]⟩
  have e : e1.map (fun p => (p.1, (.nil : DataW Unit))) = e2.map (fun p => (p.1, (.nil : DataW Unit))) :=
    eq_of_mem_rising (List.pairwise_map.2 s1) (List.pairwise_map.2 s2) (fun p => ⟨mem k1 h p, mem k2 (fun x => (h x).symm) p⟩)
  have := congrArg List.length e
  simpa [Maps.size] using this

theorem Clk.canon {w : World} {r : Option Nat} {n : Nat} {D : DataW Unit} (h : Clk w r n D) : Canon D := by
  rcases h with ⟨_, rfl⟩ | ⟨b, _, h⟩
  · exact canon_empty
  · exact h.canon law9

theorem mx_max (a b : Int) : mx a b = max a b := by unfold mx; split <;> omega
theorem val_empty (x : Lit) : val (.map []) x = 0 := rfl
theorem Strs.none (w : World) (ss : Nat → ByteArray) : Strs w none 0 ss := ⟨fun j h => by omega, fun h => by omega, Nat.zero_le _⟩

theorem Strs.drewN {w : World} {a : Option Addr} {len : Nat} {ss : Nat → ByteArray} (h : Strs w a len ss) (m : Nat) : Strs (w.drewN m) a len ss := ⟨h.size, h.cells, h.len_le⟩

/-- The plain law: at each key of the first list. -/
theorem hit_both {Dc Dd D1 D2 : DataW Unit} (h1 : Merged Dc Dd D1) (h2 : Merged Dd Dc D2) (hw : ∀ s : ByteArray, s.size ≤ maxLen → 0 ≤ val Dc (ky s)) {s : ByteArray} (hs : s.size ≤ maxLen)
    (hh : Maps.has Dc (ky s) = true ∨ Maps.has Dd (ky s) = true) : Hit D1 D2 D1 D2 Dc Dd (.map []) (ky s) := by
  have e1 : Maps.has D1 (ky s) = true := by rw [h1.has]; rcases hh with h | h <;> simp [h]
  have e2 : Maps.has D2 (ky s) = true := by rw [h2.has]; rcases hh with h | h <;> simp [h]
  have v1 := h1.val s hs
  have v2 := h2.val s hs
  have v0 := hw s hs
  have f1 : val D1 (ky s) = mx (mx (val Dc (ky s)) (val Dd (ky s))) (val (.map []) (ky s)) := by rw [mx_max, mx_max, val_empty, v1]; omega
  have f2 : val D2 (ky s) = mx (mx (val Dc (ky s)) (val Dd (ky s))) (val (.map []) (ky s)) := by rw [mx_max, mx_max, val_empty, v2]; omega
  exact ⟨⟨e1, f1⟩, ⟨e2, f2⟩, ⟨e1, f1⟩, ⟨e2, f2⟩⟩

set_option maxHeartbeats 4000000 in
theorem walkA (a0 a1 a2 a3 : Option Addr) (l0 l1 l2 l3 c0 c1 c2 c3 : Nat) (s0 s2 : Nat → ByteArray) (z1 z3 : Nat → Int) (w : World) (h0 : Strs w a0 l0 s0) (h1 : Nums w a1 l1 z1) (h2 : Strs w a2 l2 s2) (h3 : Nums w a3 l3 z3) :
    Calls Try.prog 3 #[.slice a0 l0 c0, .slice a1 l1 c1, .slice a2 l2 c2, .slice a3 l3 c3] w fun e w' => e = .returned (.bool true) ∧ Below w.heap.size w w' := by
  have q27 := eql_nil
  go_enter Try.func3, Try.ntmps3
  go_wp2_with fail
  refine (bytes_any a0 a1 a2 a3 l0 l1 l2 l3 c0 c1 c2 c3 s0 s2 w h0 h2 h1.len_le h3.len_le).mono ?_
  rintro e w' ⟨⟨x, rfl, hx⟩, rfl⟩
  cases x with
  | false =>
    go_wp2_with fail
    go_ret
    exact ⟨rfl, Below.refl _ _⟩
  | true =>
  obtain ⟨b0, b1, b2, b3⟩ := hx rfl
  clear hx
  go_wp2_with fail
  refine (size_any a0 a1 a2 a3 .none .none l0 l1 l2 l3 0 0 c0 c1 c2 c3 0 0 s0 s2 s0 w h0 h2 (Strs.none w s0)).mono ?_
  rintro e w' ⟨⟨x, rfl⟩, rfl⟩
  by_cases hx : 1048576 < x
  · go_wp2_with fail
    go_ret
    exact ⟨rfl, Below.refl _ _⟩
  go_wp2_with fail
  refine (build_any a0 a1 l0 l1 c0 c1 s0 z1 w h0 h1).mono ?_
  rintro e w1 ⟨rc, rfl, nc, kc, hb⟩
  have NC : Hid (rc.isNone = a0.isNone) := nc
  clear nc
  replace h0 := h0.below hb
  replace h1 := h1.below hb
  replace h2 := h2.below hb
  replace h3 := h3.below hb
  have B1 := hb
  clear hb
  go_wp2_with fail
  refine (build_any a2 a3 l2 l3 c2 c3 s2 z3 w1 h2 h3).mono ?_
  rintro e w2 ⟨rd, rfl, nd, kd, hb⟩
  have ND : Hid (rd.isNone = a2.isNone) := nd
  clear nd
  replace h0 := h0.below hb
  replace h1 := h1.below hb
  replace h2 := h2.below hb
  replace h3 := h3.below hb
  replace kc := kc.below hb
  have B2 := B1.trans (hb.mono B1.size)
  clear hb B1
  go_wp2_with fail
  refine (build_any a0 a1 l0 l1 c0 c1 s0 z1 w2 h0 h1).mono ?_
  rintro e w3 ⟨rck, rfl, nck, kck, hb⟩
  have NCK : Hid (rck.isNone = a0.isNone) := nck
  clear nck
  replace h0 := h0.below hb
  replace h2 := h2.below hb
  replace h3 := h3.below hb
  replace kc := kc.below hb
  replace kd := kd.below hb
  have B3 := B2.trans (hb.mono B2.size)
  clear hb B2 h1
  go_wp2_with fail
  refine (build_any a2 a3 l2 l3 c2 c3 s2 z3 w3 h2 h3).mono ?_
  rintro e w4 ⟨rdk, rfl, ndk, kdk, hb⟩
  have NDK : Hid (rdk.isNone = a2.isNone) := ndk
  clear ndk
  replace h0 := h0.below hb
  replace h2 := h2.below hb
  replace kc := kc.below hb
  replace kd := kd.below hb
  replace kck := kck.below hb
  have B4 := B3.trans (hb.mono B3.size)
  clear hb B3 h3
  go_wp2_with fail
  refine (union_any a0 a1 a2 a3 .none .none l0 l1 l2 l3 0 0 c0 c1 c2 c3 0 0 s0 s2 s0 w4 h0 h2 (Strs.none w4 s0) b0 b2 (by omega)).mono ?_
  rintro e w5 ⟨⟨U, cU, hU, rfl⟩, hb⟩
  replace h0 := h0.below hb
  replace h2 := h2.below hb
  replace kc := kc.below hb
  replace kd := kd.below hb
  replace kck := kck.below hb
  replace kdk := kdk.below hb
  have B5 := B4.trans (hb.mono B4.size)
  clear hb B4
  go_wp2_with fail
  refine (merge_any rc rd _ _ _ _ w5 kc kd (by omega) (by omega)).mono ?_
  rintro e w6 ⟨rfl, D1, o1, M1, hb⟩
  replace h0 := h0.below hb
  replace h2 := h2.below hb
  replace kc := kc.below hb
  replace kd := kd.below hb
  replace kck := kck.below hb
  replace kdk := kdk.below hb
  have B6 := B5.trans (hb.mono B5.size)
  clear hb B5
  go_wp2_with fail
  refine (merge_any rd rc _ _ _ _ w6 kd kc (by omega) (by omega)).mono ?_
  rintro e w7 ⟨rfl, D2, o2, M2, hb⟩
  replace h0 := h0.below hb
  replace h2 := h2.below hb
  replace kc := kc.below hb
  replace kd := kd.below hb
  replace kck := kck.below hb
  replace kdk := kdk.below hb
  have k1 : Clk w7 (some w5.heap.size) _ D1 := .inr ⟨_, rfl, o1.kept (grown_of_below hb) (by simp)⟩
  have k2 : Clk w7 (some w6.heap.size) _ D2 := .inr ⟨_, rfl, o2⟩
  have B7 := B6.trans (hb.mono B6.size)
  clear hb B6 o1 o2
  have z1' : Maps.size D1 = Maps.size U := size_of_has k1.canon cU (fun x => by rw [M1.has, hU, has_bD, has_bD]; simp [among])
  have z2' : Maps.size D2 = Maps.size U := size_of_has k2.canon cU (fun x => by rw [M2.has, hU, has_bD, has_bD]; simp [among, Bool.or_comm])
  have L1 := k1.len 3
  have L2 := k2.len 3
  rw [z1'] at L1
  rw [z2'] at L2
  clear z1' z2' hU cU
  have hwf := fun (s : ByteArray) (h : s.size ≤ maxLen) => u64_nonneg (kc.val_wf h)
  have HC : Hid (∀ i, i < min l0 l1 → Maps.has (bD s0 z1 (min l0 l1)) (ky (s0 i)) = true) := fun i hi => by rw [has_bD]; exact among_of s0 _ i hi
  have HD : Hid (∀ i, i < min l2 l3 → Maps.has (bD s2 z3 (min l2 l3)) (ky (s2 i)) = true) := fun i hi => by rw [has_bD]; exact among_of s2 _ i hi
  have ke : Clk w7 .none 0 (.map []) := .inl ⟨rfl, rfl⟩
  go_wp2_with fail
  refine (all_any _ _ _ _ _ _ _ _ _ _ _ _ _ _ _ _ _ _ _ _ _ a0 a1 l0 l1 c0 c1 s0 w7 h0 k1 k2 k1 k2 kck kdk ke (fun i hi => hit_both M1 M2 hwf (h0.size i (by omega)) (.inl (HC.out i hi)))).mono ?_
  rintro e w8 ⟨rfl, m1, rfl⟩
  go_wp2_with fail
  refine (all_any _ _ _ _ _ _ _ _ _ _ _ _ _ _ _ _ _ _ _ _ _ a2 a3 l2 l3 c2 c3 s2 (w7.drewN m1) (h2.drewN m1) k1 k2 k1 k2 kck kdk ke (fun i hi => hit_both M1 M2 hwf (h2.size i (by omega)) (.inr (HD.out i hi)))).mono ?_
  rintro e w9 ⟨rfl, m2, rfl⟩
  go_wp2_with fail
  refine (same_any rc rck _ _ _ a0 a1 l0 l1 c0 c1 s0 (w7.drewN (m1 + m2)) (h0.drewN _) kc kck (NC.out.trans NCK.out.symm) HC.out).mono ?_
  rintro e w9 ⟨rfl, rfl⟩
  go_wp2_with fail
  refine (same_any rd rdk _ _ _ a2 a3 l2 l3 c2 c3 s2 (w7.drewN (m1 + m2)) (h2.drewN _) kd kdk (ND.out.trans NDK.out.symm) HD.out).mono ?_
  rintro e w9 ⟨rfl, rfl⟩
  go_wp2_with fail
  go_ret
  exact ⟨rfl, below_drewN B7 _⟩

end Go.Proofs.Qxb6627451a
