import Derived.Test.Qxb6627451aLawA
import Derived.Test.Qxb6627451aBytesB
import Derived.OpenShut
namespace Go.Proofs.Qxb6627451a
open Go.RowKit Go.Maps

/-- The three merges of one sort: every one holds the largest of the three entries at each key of any. -/
structure Top (Dc Dd De D : DataW Unit) : Prop where
  has : ∀ x, Maps.has D x = (Maps.has Dc x || Maps.has Dd x || Maps.has De x)
  val : ∀ s : ByteArray, s.size ≤ maxLen → val D (ky s) = max (max (val Dc (ky s)) (val Dd (ky s))) (val De (ky s))
theorem top_left {Dc Dd De D1 D : DataW Unit} (h1 : Merged Dc Dd D1) (h2 : Merged D1 De D) : Top Dc Dd De D :=
  ⟨fun x => by rw [h2.has, h1.has], fun s hs => by rw [h2.val s hs, h1.val s hs]⟩
theorem top_right {Dc Dd De D1 D : DataW Unit} (h1 : Merged Dd De D1) (h2 : Merged Dc D1 D) : Top Dc Dd De D :=
  ⟨fun x => by rw [h2.has, h1.has]; cases Maps.has Dc x <;> simp, fun s hs => by rw [h2.val s hs, h1.val s hs]; omega⟩
theorem top_c {Dc Dd De D D' : DataW Unit} (h1 : Top Dc Dd De D) (h2 : Merged D Dc D') : Top Dc Dd De D' :=
  ⟨fun x => by rw [h2.has, h1.has]; cases Maps.has Dc x <;> simp, fun s hs => by rw [h2.val s hs, h1.val s hs]; omega⟩
theorem top_e {Dc Dd De D D' : DataW Unit} (h1 : Top Dc Dd De D) (h2 : Merged D De D') : Top Dc Dd De D' :=
  ⟨fun x => by rw [h2.has, h1.has]; cases Maps.has De x <;> simp, fun s hs => by rw [h2.val s hs, h1.val s hs]; omega⟩
theorem hit_top {Dc Dd De D1 D2 D3 D4 : DataW Unit} (h1 : Top Dc Dd De D1) (h2 : Top Dc Dd De D2) (h3 : Top Dc Dd De D3) (h4 : Top Dc Dd De D4) {s : ByteArray} (hs : s.size ≤ maxLen)
    (hh : (Maps.has Dc (ky s) || Maps.has Dd (ky s) || Maps.has De (ky s)) = true) : Hit D1 D2 D3 D4 Dc Dd De (ky s) := by
  have g : ∀ {D : DataW Unit}, Top Dc Dd De D → Maps.has D (ky s) = true ∧ val D (ky s) = mx (mx (val Dc (ky s)) (val Dd (ky s))) (val De (ky s)) :=
    fun h => ⟨by rw [h.has]; exact hh, by rw [h.val s hs, mx_max, mx_max]⟩
  exact ⟨g h1, g h2, g h3, g h4⟩

/-- The last loop's relation: only the copy turns. -/
def PRel (w : World) (b N n : Nat) (i : Value) (wr : World) : Prop :=
  ∃ (k : Nat) (D : DataW Unit), k ≤ N ∧ i = .int .i64 k ∧ wr.ownsMap Try.prog 9 (plainElem Try.prog 35) b (n + k) D ∧ w.grownBy wr (some b)

/-- A slice of strings that does not lie in the map's block. -/
theorem fstrs {w w' : World} {a : Option Addr} {len : Nat} {ss : Nat → ByteArray} {bm : Nat} (h : Strs w a len ss) (hg : w.grownBy w' (some bm)) {n : Nat} {D : DataW Unit} (hm : w.ownsMap Try.prog 9 (plainElem Try.prog 35) bm n D) : Strs w' a len ss :=
  ⟨h.size, fun h0 => by
    obtain ⟨b, off, ha, hlt, hc⟩ := h.cells h0
    have hne : b ≠ bm := fun e => by
      obtain ⟨es, clock, hb, _⟩ := hm
      have := hc 0 h0
      subst e
      simp [World.cell?, hb] at this
    exact ⟨b, off, ha, Nat.lt_of_lt_of_le hlt hg.size, fun j hj => (World.cell?_of_block (w := w) (hg.block b hlt (by simpa using hne))).trans (hc j hj)⟩, h.len_le⟩

set_option maxRecDepth 100000 in
set_option maxHeartbeats 8000000 in
theorem walkB (a0 a1 a2 a3 a4 a5 : Option Addr) (l0 l1 l2 l3 l4 l5 c0 c1 c2 c3 c4 c5 : Nat) (s0 s2 s4 : Nat → ByteArray) (z1 z3 z5 : Nat → Int) (w : World) (h0 : Strs w a0 l0 s0) (h1 : Nums w a1 l1 z1) (h2 : Strs w a2 l2 s2) (h3 : Nums w a3 l3 z3) (h4 : Strs w a4 l4 s4) (h5 : Nums w a5 l5 z5) :
    Calls Try.prog 4 #[.slice a0 l0 c0, .slice a1 l1 c1, .slice a2 l2 c2, .slice a3 l3 c3, .slice a4 l4 c4, .slice a5 l5 c5] w fun e w' => e = .returned (.bool true) ∧ Below w.heap.size w w' := by
  have q27 := eql_nil
  go_enter Try.func4, Try.ntmps4
  go_wp2_with fail
  refine (bytesB_any a0 a1 a2 a3 a4 a5 l0 l1 l2 l3 l4 l5 c0 c1 c2 c3 c4 c5 s0 s2 s4 w h0 h2 h4 h1.len_le h3.len_le h5.len_le).mono ?_
  rintro e w' ⟨⟨x, rfl, hx⟩, rfl⟩
  cases x with
  | false =>
    go_wp2_with fail
    go_ret
    exact ⟨rfl, Below.refl _ _⟩
  | true =>
  obtain ⟨b0, b1, b2, b3, b4, b5⟩ := hx rfl
  clear hx
  go_wp2_with fail
  refine (size_any a0 a1 a2 a3 a4 a5 l0 l1 l2 l3 l4 l5 c0 c1 c2 c3 c4 c5 s0 s2 s4 w h0 h2 h4).mono ?_
  rintro e w' ⟨⟨x, rfl⟩, rfl⟩
  by_cases hx : 1048576 < x
  · go_wp2_with fail
    go_ret
    exact ⟨rfl, Below.refl _ _⟩
  go_wp2_with fail
  refine (build_any a0 a1 l0 l1 c0 c1 s0 z1 w h0 h1).mono ?_
  rintro e w1 ⟨rc, rfl, nc, kc, hb⟩
  have Nc : Hid (rc.isNone = a0.isNone) := nc
  clear nc
  replace h0 := h0.below hb
  replace h1 := h1.below hb
  replace h2 := h2.below hb
  replace h3 := h3.below hb
  replace h4 := h4.below hb
  replace h5 := h5.below hb
  have B1 := hb
  clear hb
  go_wp2_with fail
  refine (build_any a2 a3 l2 l3 c2 c3 s2 z3 w1 h2 h3).mono ?_
  rintro e w2 ⟨rd, rfl, nd, kd, hb⟩
  have Nd : Hid (rd.isNone = a2.isNone) := nd
  clear nd
  replace h0 := h0.below hb
  replace h1 := h1.below hb
  replace h2 := h2.below hb
  replace h3 := h3.below hb
  replace h4 := h4.below hb
  replace h5 := h5.below hb
  replace kc := kc.below hb
  have B2 := B1.trans (hb.mono B1.size)
  clear hb B1
  go_wp2_with fail
  refine (build_any a4 a5 l4 l5 c4 c5 s4 z5 w2 h4 h5).mono ?_
  rintro e w3 ⟨re, rfl, ne, ke, hb⟩
  have Ne : Hid (re.isNone = a4.isNone) := ne
  clear ne
  replace h0 := h0.below hb
  replace h1 := h1.below hb
  replace h2 := h2.below hb
  replace h3 := h3.below hb
  replace h4 := h4.below hb
  replace h5 := h5.below hb
  replace kc := kc.below hb
  replace kd := kd.below hb
  have B3 := B2.trans (hb.mono B2.size)
  clear hb B2
  go_wp2_with fail
  refine (build_any a0 a1 l0 l1 c0 c1 s0 z1 w3 h0 h1).mono ?_
  rintro e w4 ⟨rck, rfl, nck, kck, hb⟩
  have Nck : Hid (rck.isNone = a0.isNone) := nck
  clear nck
  replace h0 := h0.below hb
  replace h1 := h1.below hb
  replace h2 := h2.below hb
  replace h3 := h3.below hb
  replace h4 := h4.below hb
  replace h5 := h5.below hb
  replace kc := kc.below hb
  replace kd := kd.below hb
  replace ke := ke.below hb
  have B4 := B3.trans (hb.mono B3.size)
  clear hb B3
  go_wp2_with fail
  refine (build_any a2 a3 l2 l3 c2 c3 s2 z3 w4 h2 h3).mono ?_
  rintro e w5 ⟨rdk, rfl, ndk, kdk, hb⟩
  have Ndk : Hid (rdk.isNone = a2.isNone) := ndk
  clear ndk
  replace h0 := h0.below hb
  replace h1 := h1.below hb
  replace h2 := h2.below hb
  replace h3 := h3.below hb
  replace h4 := h4.below hb
  replace h5 := h5.below hb
  replace kc := kc.below hb
  replace kd := kd.below hb
  replace ke := ke.below hb
  replace kck := kck.below hb
  have B5 := B4.trans (hb.mono B4.size)
  clear hb B4
  go_wp2_with fail
  refine (build_any a4 a5 l4 l5 c4 c5 s4 z5 w5 h4 h5).mono ?_
  rintro e w6 ⟨rek, rfl, nek, kek, hb⟩
  have Nek : Hid (rek.isNone = a4.isNone) := nek
  clear nek
  replace h0 := h0.below hb
  replace h1 := h1.below hb
  replace h2 := h2.below hb
  replace h3 := h3.below hb
  replace h4 := h4.below hb
  replace h5 := h5.below hb
  replace kc := kc.below hb
  replace kd := kd.below hb
  replace ke := ke.below hb
  replace kck := kck.below hb
  replace kdk := kdk.below hb
  have B6 := B5.trans (hb.mono B5.size)
  clear hb B5
  clear h1 h3 h5
  go_wp2_with fail
  refine (union_any a0 a1 a2 a3 a4 a5 l0 l1 l2 l3 l4 l5 c0 c1 c2 c3 c4 c5 s0 s2 s4 w6 h0 h2 h4 b0 b2 b4).mono ?_
  rintro e w7 ⟨⟨U, cU, hU, rfl⟩, hb⟩
  replace h0 := h0.below hb
  replace h2 := h2.below hb
  replace h4 := h4.below hb
  replace kc := kc.below hb
  replace kd := kd.below hb
  replace ke := ke.below hb
  replace kck := kck.below hb
  replace kdk := kdk.below hb
  replace kek := kek.below hb
  have B7 := B6.trans (hb.mono B6.size)
  clear hb B6
  go_wp2_with fail
  refine (merge_any rc rd _ _ _ _ w7 kc kd (by omega) (by omega)).mono ?_
  rintro e w8 ⟨rfl, Dm1, om1, Mm1, hb⟩
  replace h0 := h0.below hb
  replace h2 := h2.below hb
  replace h4 := h4.below hb
  replace kc := kc.below hb
  replace kd := kd.below hb
  replace ke := ke.below hb
  replace kck := kck.below hb
  replace kdk := kdk.below hb
  replace kek := kek.below hb
  have B8 := B7.trans (hb.mono B7.size)
  clear hb B7
  have km1 : Clk w8 (some w7.heap.size) _ Dm1 := .inr ⟨_, rfl, om1⟩
  clear om1
  go_wp2_with fail
  refine (merge_any (some w7.heap.size) re _ _ _ _ w8 km1 ke (by omega) (by omega)).mono ?_
  rintro e w9 ⟨rfl, Dm2, om2, Mm2, hb⟩
  replace h0 := h0.below hb
  replace h2 := h2.below hb
  replace h4 := h4.below hb
  replace kc := kc.below hb
  replace kd := kd.below hb
  replace ke := ke.below hb
  replace kck := kck.below hb
  replace kdk := kdk.below hb
  replace kek := kek.below hb
  replace km1 := km1.below hb
  have B9 := B8.trans (hb.mono B8.size)
  clear hb B8
  have km2 : Clk w9 (some w8.heap.size) _ Dm2 := .inr ⟨_, rfl, om2⟩
  clear om2
  go_wp2_with fail
  refine (merge_any rd re _ _ _ _ w9 kd ke (by omega) (by omega)).mono ?_
  rintro e w10 ⟨rfl, Dm3, om3, Mm3, hb⟩
  replace h0 := h0.below hb
  replace h2 := h2.below hb
  replace h4 := h4.below hb
  replace kc := kc.below hb
  replace kd := kd.below hb
  replace ke := ke.below hb
  replace kck := kck.below hb
  replace kdk := kdk.below hb
  replace kek := kek.below hb
  replace km1 := km1.below hb
  replace km2 := km2.below hb
  have B10 := B9.trans (hb.mono B9.size)
  clear hb B9
  have km3 : Clk w10 (some w9.heap.size) _ Dm3 := .inr ⟨_, rfl, om3⟩
  clear om3
  go_wp2_with fail
  refine (merge_any rc (some w9.heap.size) _ _ _ _ w10 kc km3 (by omega) (by omega)).mono ?_
  rintro e w11 ⟨rfl, Dm4, om4, Mm4, hb⟩
  replace h0 := h0.below hb
  replace h2 := h2.below hb
  replace h4 := h4.below hb
  replace kc := kc.below hb
  replace kd := kd.below hb
  replace ke := ke.below hb
  replace kck := kck.below hb
  replace kdk := kdk.below hb
  replace kek := kek.below hb
  replace km1 := km1.below hb
  replace km2 := km2.below hb
  replace km3 := km3.below hb
  have B11 := B10.trans (hb.mono B10.size)
  clear hb B10
  have km4 : Clk w11 (some w10.heap.size) _ Dm4 := .inr ⟨_, rfl, om4⟩
  clear om4
  go_wp2_with fail
  refine (merge_any (some w8.heap.size) rc _ _ _ _ w11 km2 kc (by omega) (by omega)).mono ?_
  rintro e w12 ⟨rfl, Dm5, om5, Mm5, hb⟩
  replace h0 := h0.below hb
  replace h2 := h2.below hb
  replace h4 := h4.below hb
  replace kc := kc.below hb
  replace kd := kd.below hb
  replace ke := ke.below hb
  replace kck := kck.below hb
  replace kdk := kdk.below hb
  replace kek := kek.below hb
  replace km1 := km1.below hb
  replace km2 := km2.below hb
  replace km3 := km3.below hb
  replace km4 := km4.below hb
  have B12 := B11.trans (hb.mono B11.size)
  clear hb B11
  have km5 : Clk w12 (some w11.heap.size) _ Dm5 := .inr ⟨_, rfl, om5⟩
  clear om5
  go_wp2_with fail
  refine (merge_any (some w8.heap.size) re _ _ _ _ w12 km2 ke (by omega) (by omega)).mono ?_
  rintro e w13 ⟨rfl, Dm6, om6, Mm6, hb⟩
  replace h0 := h0.below hb
  replace h2 := h2.below hb
  replace h4 := h4.below hb
  replace kc := kc.below hb
  replace kd := kd.below hb
  replace ke := ke.below hb
  replace kck := kck.below hb
  replace kdk := kdk.below hb
  replace kek := kek.below hb
  replace km1 := km1.below hb
  replace km2 := km2.below hb
  replace km3 := km3.below hb
  replace km4 := km4.below hb
  replace km5 := km5.below hb
  have B13 := B12.trans (hb.mono B12.size)
  clear hb B12
  have km6 : Clk w13 (some w12.heap.size) _ Dm6 := .inr ⟨_, rfl, om6⟩
  clear om6
  have TL := top_left Mm1 Mm2
  have TR := top_right Mm3 Mm4
  have T1 := top_c TL Mm5
  have T2 := top_e TL Mm6
  have Lm2 := km2.len 3
  rw [size_of_has km2.canon cU (fun x => by rw [TL.has, hU, has_bD, has_bD, has_bD])] at Lm2
  have Lm4 := km4.len 3
  rw [size_of_has km4.canon cU (fun x => by rw [TR.has, hU, has_bD, has_bD, has_bD])] at Lm4
  have Lm5 := km5.len 3
  rw [size_of_has km5.canon cU (fun x => by rw [T1.has, hU, has_bD, has_bD, has_bD])] at Lm5
  have Lm6 := km6.len 3
  rw [size_of_has km6.canon cU (fun x => by rw [T2.has, hU, has_bD, has_bD, has_bD])] at Lm6
  have HC : Hid (∀ i, i < min l0 l1 → Maps.has (bD s0 z1 (min l0 l1)) (ky (s0 i)) = true) := fun i hi => by rw [has_bD]; exact among_of s0 _ i hi
  have HD : Hid (∀ i, i < min l2 l3 → Maps.has (bD s2 z3 (min l2 l3)) (ky (s2 i)) = true) := fun i hi => by rw [has_bD]; exact among_of s2 _ i hi
  have HE : Hid (∀ i, i < min l4 l5 → Maps.has (bD s4 z5 (min l4 l5)) (ky (s4 i)) = true) := fun i hi => by rw [has_bD]; exact among_of s4 _ i hi
  clear cU hU Mm1 Mm2 Mm3 Mm4 Mm5 Mm6 km1 km3
  go_wp2_with fail
  refine (all_any _ _ _ _ _ _ _ _ _ _ _ _ _ _ _ _ _ _ _ _ _ a0 a1 l0 l1 c0 c1 s0 w13 h0 km2 km4 km5 km6 kck kdk kek (fun i hi => hit_top TL TR T1 T2 (h0.size i (by omega)) (by rw [HC.out i hi]; rfl))).mono ?_
  rintro e w' ⟨rfl, m1, rfl⟩
  go_wp2_with fail
  refine (all_any _ _ _ _ _ _ _ _ _ _ _ _ _ _ _ _ _ _ _ _ _ a2 a3 l2 l3 c2 c3 s2 (w13.drewN m1) (h2.drewN m1) km2 km4 km5 km6 kck kdk kek (fun i hi => hit_top TL TR T1 T2 (h2.size i (by omega)) (by rw [HD.out i hi]; simp))).mono ?_
  rintro e w' ⟨rfl, m2, rfl⟩
  go_wp2_with fail
  refine (all_any _ _ _ _ _ _ _ _ _ _ _ _ _ _ _ _ _ _ _ _ _ a4 a5 l4 l5 c4 c5 s4 (w13.drewN (m1 + m2)) (h4.drewN _) km2 km4 km5 km6 kck kdk kek (fun i hi => hit_top TL TR T1 T2 (h4.size i (by omega)) (by rw [HE.out i hi]; simp))).mono ?_
  rintro e w' ⟨rfl, m3, rfl⟩
  clear km2 km4 km5 km6 TL TR T1 T2 Lm2 Lm4 Lm5 Lm6
  obtain ⟨wd, hwd⟩ : ∃ wd, w13.drewN (m1 + m2 + m3) = wd := ⟨_, rfl⟩
  have Bd : Below w.heap.size w wd := by rw [← hwd]; exact below_drewN B13 _
  have jc : Clk wd rc (min l0 l1) (bD s0 z1 (min l0 l1)) := by rw [← hwd]; exact kc.drewN _
  have jd : Clk wd rd (min l2 l3) (bD s2 z3 (min l2 l3)) := by rw [← hwd]; exact kd.drewN _
  have je : Clk wd re (min l4 l5) (bD s4 z5 (min l4 l5)) := by rw [← hwd]; exact ke.drewN _
  have jck : Clk wd rck (min l0 l1) (bD s0 z1 (min l0 l1)) := by rw [← hwd]; exact kck.drewN _
  have jdk : Clk wd rdk (min l2 l3) (bD s2 z3 (min l2 l3)) := by rw [← hwd]; exact kdk.drewN _
  have jek : Clk wd rek (min l4 l5) (bD s4 z5 (min l4 l5)) := by rw [← hwd]; exact kek.drewN _
  have g0 : Strs wd a0 l0 s0 := by rw [← hwd]; exact h0.drewN _
  have g2 : Strs wd a2 l2 s2 := by rw [← hwd]; exact h2.drewN _
  have g4 : Strs wd a4 l4 s4 := by rw [← hwd]; exact h4.drewN _
  clear kc kd ke kck kdk kek h0 h2 h4 B13
  go_wp2_with fail
  refine (merge_any rc .none _ 0 _ (.map []) wd jc (.inl ⟨rfl, rfl⟩) (by omega) (by omega)).mono ?_
  rintro e wp ⟨rfl, Dp, op, Mp, hb⟩
  clear hwd
  have ltc := jc.lt
  have ltd := jd.lt
  have lte := je.lt
  have ltck := jck.lt
  have ltdk := jdk.lt
  have ltek := jek.lt
  replace jc := jc.below hb
  replace jd := jd.below hb
  replace je := je.below hb
  replace jck := jck.below hb
  replace jdk := jdk.below hb
  replace jek := jek.below hb
  replace g0 := g0.below hb
  replace g2 := g2.below hb
  replace g4 := g4.below hb
  have Bp : Below w.heap.size w wp := Bd.trans (hb.mono Bd.size)
  clear hb
  have jp : Clk wp (some wd.heap.size) _ Dp := .inr ⟨_, rfl, op⟩
  have Lp := jp.len 3
  have Lck := jck.len 3
  rw [size_of_has jp.canon jck.canon (fun x => by rw [Mp.has]; simp [Maps.has])] at Lp
  have hwf := fun (s : ByteArray) (h : s.size ≤ maxLen) => u64_nonneg (jc.val_wf h)
  have HP : Hid (∀ i, i < min l0 l1 → Maps.has Dp (ky (s0 i)) = true ∧ val Dp (ky (s0 i)) = val (bD s0 z1 (min l0 l1)) (ky (s0 i))) := fun i hi => by
    have hs := g0.size i (by omega)
    have := hwf _ hs
    refine ⟨by rw [Mp.has, HC.out i hi]; rfl, ?_⟩
    rw [Mp.val _ hs, val_empty]; omega
  clear Mp hwf
  obtain ⟨N, hN, hN0⟩ : ∃ N, Hid (N = min l0 l1) ∧ N ≤ l0 := ⟨min l0 l1, rfl, by omega⟩
  go_wp2_with (go_at_call 13; refine (pairs_any _ _ _ _ _ _ _).mono ?_; rw [← hN.out]; rintro e w' ⟨rfl, rfl⟩)
  clear Lp Lck q27
  go_loop [26] (fun i => SRel N i) (fun i => N - (intOf i).toNat)
  case atStart => exact ⟨0, Nat.zero_le _, rfl⟩
  case round =>
    obtain ⟨k, hk, rfl⟩ := hrel
    by_cases hlt : k < N
    · obtain ⟨b, o, hix, hcx, hb⟩ := g0.idx (k := k) (by omega) c0
      have hsz := g0.size k (by omega)
      have hl := jck.look hsz
      have G := HP.out k (by rw [← hN.out]; exact hlt)
      have G1 : Hid (Maps.has Dp (ky (s0 k)) = true) := G.1
      have G2 : Hid (val Dp (ky (s0 k)) = val (bD s0 z1 (min l0 l1)) (ky (s0 k))) := G.2
      clear G
      go_wp2_with (go_at_call 14; refine (has_true jp hsz G1.out G2.out).mono ?_; rintro e w' ⟨rfl, rfl⟩)
      go_round
      case rel => exact ⟨k + 1, by omega, by go_num⟩
      case measure => simp [intOf]; omega
    · clear jp HP
      have hpl := op.lt
      go_wp2_with fail
      go_loopw [28] (fun i wr => PRel wp wd.heap.size N (min l0 l1 + 0) i wr) (fun i _ => N - (intOf i).toNat)
      case atStart => exact ⟨0, Dp, Nat.zero_le _, rfl, op, ⟨rfl, rfl, rfl, Nat.le_refl _, fun _ _ _ => rfl⟩⟩
      case round =>
        obtain ⟨j, D, hj, rfl, hown, hgw⟩ := hrel
        by_cases hlt2 : j < N
        · obtain ⟨b, o, hix, hcx, hb⟩ := g0.idx (k := j) (by omega) c0
          have hsz := g0.size j (by omega)
          have hlook := Clk.look (r := some wd.heap.size) (.inr ⟨_, rfl, hown⟩) hsz
          have hcr : wr.cell? ⟨b, o, none⟩ = some (.string (s0 j)) := by
            have hne : b ≠ wd.heap.size := fun e => by
              obtain ⟨es, clock, hbm, _⟩ := op
              subst e
              simp [World.cell?, hbm] at hcx
            exact (World.cell?_of_block (w := wp) (hgw.block b hb (by simpa using hne))).trans hcx
          clear jc jd je jck jdk jek g0 g2 g4 hcx
          go_wp2_with (first
            | (at_mapUpdate; refine wpList_mapUpdate_own _ rfl _ _ _ 27 rfl 9 35 law9 Try.underlying27 _ wd.heap.size _ _ rfl hown (by unfold maxLen; omega) _ _ _ rfl rfl (key_ok hsz) _ [] (plainElem_int Try.underlying35 ?hwf) ?_)
            | fail)
          case hwf => exact wf_wrap _ _
          intro w1 hown1 hg1
          go_wp2_with fail
          go_roundw
          case rel => exact ⟨j + 1, _, by omega, by go_num, hown1, hgw.andThen hg1 (fun j hj => .inr hj)⟩
          case measure => simp [intOf]; omega
        · have qc := jc.kept hgw (fun b hb e => by have := ltc b hb; cases e; omega)
          have qd := jd.kept hgw (fun b hb e => by have := ltd b hb; cases e; omega)
          have qe := je.kept hgw (fun b hb e => by have := lte b hb; cases e; omega)
          have qck := jck.kept hgw (fun b hb e => by have := ltck b hb; cases e; omega)
          have qdk := jdk.kept hgw (fun b hb e => by have := ltdk b hb; cases e; omega)
          have qek := jek.kept hgw (fun b hb e => by have := ltek b hb; cases e; omega)
          have Bq : Below wd.heap.size wp wr := (Below.refl _ _).grown hgw (by omega) (fun j hj => by cases hj; exact Nat.le_refl _)
          have f0 := fstrs g0 hgw op
          have f2 := fstrs g2 hgw op
          have f4 := fstrs g4 hgw op
          clear jc jd je jck jdk jek g0 g2 g4 ltc ltd lte ltck ltdk ltek hown hgw op
          go_wp2_with fail
          refine (same_any rc rck _ _ _ a0 a1 l0 l1 c0 c1 s0 wr f0 qc qck (Nc.out.trans Nck.out.symm) HC.out).mono ?_
          rintro e w9 ⟨rfl, rfl⟩
          go_wp2_with fail
          refine (same_any rd rdk _ _ _ a2 a3 l2 l3 c2 c3 s2 wr f2 qd qdk (Nd.out.trans Ndk.out.symm) HD.out).mono ?_
          rintro e w9 ⟨rfl, rfl⟩
          go_wp2_with fail
          refine (same_any re rek _ _ _ a4 a5 l4 l5 c4 c5 s4 wr f4 qe qek (Ne.out.trans Nek.out.symm) HE.out).mono ?_
          rintro e w9 ⟨rfl, rfl⟩
          go_wp2_with fail
          go_ret
          exact ⟨rfl, Bp.trans (Bq.mono Bd.size)⟩

end Go.Proofs.Qxb6627451a
