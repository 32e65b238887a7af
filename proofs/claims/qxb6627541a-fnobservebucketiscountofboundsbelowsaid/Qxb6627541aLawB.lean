import Derived.Test.Qxb6627541aLoopsB
namespace Go.Proofs.Qxb6627541a
open Go.RowKit

set_option maxRecDepth 100000 in
set_option maxHeartbeats 8000000 in
theorem walkB (a0 a1 a3 : Option Addr) (l0 l1 l3 c0 c1 c3 s : Nat) (bs : Nat → Nat) (cs : Nat → Int) (xs : Nat → Nat) (w : World) (h0 : Flts w w.heap.size a0 l0 bs) (h1 : Nums w w.heap.size a1 l1 cs) (h3 : Flts w w.heap.size a3 l3 xs) :
    Calls Try.prog 3 #[.slice a0 l0 c0, .slice a1 l1 c1, .float .f64 s, .slice a3 l3 c3] w fun e w' => e = .returned (.bool true) ∧ Below w.heap.size w w' := by
  go_enter Try.func3, Try.ntmps3
  go_wp2_with fail
  refine (bytesB_any a0 a1 a3 l0 l1 l3 c0 c1 c3 s w h0.len_le h1.len_le h3.len_le).mono ?_
  rintro e w' ⟨⟨x, rfl, hx⟩, rfl⟩
  clear hx
  cases x with
  | false =>
    go_wp2_with fail
    go_ret
    exact ⟨rfl, Below.refl _ _⟩
  | true =>
  by_cases d0 : (4096 : Int) < l0
  · go_wp2_with fail
    go_ret
    exact ⟨rfl, Below.refl _ _⟩
  by_cases d1 : (8192 : Int) < l1
  · go_wp2_with fail
    go_ret
    exact ⟨rfl, Below.refl _ _⟩
  by_cases d3 : (4096 : Int) < l3
  · go_wp2_with fail
    go_ret
    exact ⟨rfl, Below.refl _ _⟩
  by_cases hl : ((l1 : Int) != (l0 : Int) + 1) = true
  · go_wp2_with fail
    go_ret
    exact ⟨rfl, Below.refl _ _⟩
  have hl2 : l1 = l0 + 1 := by
    have e : (l1 : Int) = (l0 : Int) + 1 := by simpa using hl
    omega
  subst hl2
  clear hl
  go_wp2_with fail
  refine (ordered_any w.heap.size a0 l0 c0 bs w h0).mono ?_
  rintro e w' ⟨⟨x, rfl, hx⟩, mo, rfl⟩
  cases x with
  | false =>
    go_wp2_with fail
    go_ret
    exact ⟨rfl, below_drewN (Below.refl _ _) _⟩
  | true =>
  have hsort : Hid (Sorted bs l0) := hx rfl
  clear hx
  obtain ⟨wd, hwd⟩ : ∃ wd, w.drewN mo = wd := ⟨_, rfl⟩
  have B0 : Below w.heap.size w wd := by rw [← hwd]; exact below_drewN (Below.refl _ _) _
  have hz0 : w.heap.size ≤ wd.heap.size := B0.size
  have bd := h1.bd
  replace h0 := h0.below B0
  replace h1 := h1.below B0
  replace h3 := h3.below B0
  go_wp2_with fail
  refine (cloneF_any w.heap.size a0 l0 c0 bs wd h0 hz0 (by omega)).mono ?_
  rintro e w1 ⟨ab, cb, rfl, Fb, _, hb1⟩
  clear hwd h0
  have B1 := B0.trans (hb1.mono hz0)
  replace h1 := h1.below (hb1.mono hz0)
  replace h3 := h3.below (hb1.mono hz0)
  have hz1 : w.heap.size ≤ w1.heap.size := B1.size
  clear hb1 B0
  go_wp2_with fail
  refine (cloneU_any w.heap.size a1 (l0 + 1) c1 cs w1 h1 (by omega) hz1 (by omega)).mono ?_
  rintro e w2 ⟨rfl, R0, hb2⟩
  have B2 := B1.trans (hb2.mono hz1)
  replace h3 := h3.below (hb2.mono hz1)
  replace Fb := Fb.below hb2
  have hz2 : w1.heap.size < w2.heap.size := R0.lt
  have N0 : Nums w2 w2.heap.size (some ⟨w1.heap.size, 0, none⟩) (l0 + 1) cs := R0.nums hz2 (by unfold maxLen; omega) bd
  clear h1 hb2 B1
  go_wp2_with fail
  refine (cloneU_any w2.heap.size (some ⟨w1.heap.size, 0, none⟩) (l0 + 1) _ cs w2 N0 (by omega) (Nat.le_refl _) (by omega)).mono ?_
  rintro e w3 ⟨rfl, R1, hb3⟩
  have B3 := B2.trans (hb3.mono (by omega))
  replace h3 := h3.below (hb3.mono (by omega))
  replace Fb := Fb.below (hb3.mono (by omega))
  replace R0 := R0.below hb3 hz2
  have hz3 : w2.heap.size < w3.heap.size := R1.lt
  clear hb3 B2 N0
  go_wp2_with fail
  go_loopw [10, 11] (fun t i wr => WRel w3 w2.heap.size l0 bs cs s xs l3 t i wr) (fun _ i _ => l3 - (intOf i).toNat)
  case atStart => exact wrel_start R1 s xs l3
  case round =>
    obtain ⟨p, hp1, rfl, s1, rfl, R, S, Bq⟩ := hrel
    by_cases hlt : p < l3
    · obtain ⟨b, o, hix, hcx, hb⟩ := (h3.below (Bq.mono (by omega))).idx (k := p) (by omega) c3
      have HBk := bucketOf_any w1.heap.size ab l0 cb bs (xs p) wr (Fb.below (Bq.mono (by omega)))
      have hq : nlt bs (xs p) l0 = bkt bs (xs p) l0 := nlt_eq_bkt hsort.out
      have hql := bkt_le bs (xs p) l0
      rw [hq] at HBk
      obtain ⟨q, hqq⟩ : ∃ q, bkt bs (xs p) l0 = q := ⟨_, rfl⟩
      rw [hqq] at HBk hql
      have HQ : Hid (bkt bs (xs p) l0 = q) := hqq
      have hcm := R.cell q (by omega)
      have hfm := R.frozen q (by omega)
      have HR : Hid _ := R
      have HS : Hid _ := S
      have HB : Hid _ := Bq
      have hadd := run_add s1 (xs p)
      have hkeep : ∀ u : Value, (wr.setCell ⟨w2.heap.size, q, none⟩ u).cell? ⟨b, o, none⟩ = some (.float .f64 (xs p)) := fun u => by
        rw [World.cell?_setCell_other _ _ _ _ (by intro e; have h2 := congrArg Addr.block e; dsimp only at h2; omega)]; exact hcx
      clear R S Bq hqq hq
      go_wp2_with fail
      refine HBk.mono ?_
      rintro e wt ⟨rfl, rfl⟩
      clear HBk
      go_wp2_with fail
      go_roundw
      case rel => exact wrel_next hlt HR.out HS.out HB.out HQ.out (addR_ok _ _ _) _
      case measure => simp [intOf]; omega
    · obtain rfl : l3 = p := by omega
      have SW : Hid (FSum xs 0 l3 s s1) := S
      obtain ⟨v1, rfl⟩ : ∃ v1 : World, v1 = wr := ⟨_, rfl⟩
      have zv1 : w3.heap.size ≤ v1.heap.size := Bq.size
      replace R0 := R0.below Bq (by omega)
      replace h3 := h3.below (Bq.mono (by omega))
      replace Fb := Fb.below (Bq.mono (by omega))
      have Bv1 := B3.trans (Bq.mono (by omega))
      obtain ⟨s2, hs2⟩ : ∃ s2, s1 = s2 := ⟨_, rfl⟩
      rw [hs2] at SW ⊢
      clear S Bq B3 R1 hs2
      go_wp2_with fail
      refine (newHist_any _ _ _ _ _ _ _ _).mono ?_
      rintro e v2 ⟨rfl, hv2⟩
      have H1 := hist_mk (B := w1.heap.size) (cb := cb) (cc := l0 + 1) s R0 (Fb.mono (by omega)) (fun h0 b off ha => by have := Fb.blk h0 ha; omega) (Nat.le_refl _)
      rw [hv2] at H1
      have hb2 : Below v1.heap.size v1 v2 := by rw [← hv2]; exact (Below.refl _ _).alloc (Nat.le_refl _) _
      have zv2 : v1.heap.size + 1 ≤ v2.heap.size := by rw [← hv2]; simp
      replace h3 := h3.below (hb2.mono (by omega))
      replace R := R.below hb2 (by omega)
      have Bv2 := Bv1.trans (hb2.mono (by omega))
      clear hv2 hb2 Bv1 R0 Fb
      go_wp2_with fail
      go_loopw [14] (fun i wr => LRel2 v2 w1.heap.size (v1.heap.size + 1) v1.heap.size w1.heap.size ab l0 cb (l0 + 1) bs cs s xs 0 l3 w2.heap.size (l0 + 1) (runC cs bs l0 xs 0 l3) i wr) (fun i _ => l3 - (intOf i).toNat)
      case atStart => exact ⟨lrel_start H1 xs (by omega) (by first | rfl | go_num), R⟩
      case round =>
        obtain ⟨⟨p, hp0, hp1, rfl, s1, H, S, Bq⟩, Rw⟩ := hrel
        by_cases hlt : p < l3
        · obtain ⟨b, o, hix, hcx, hb⟩ := (h3.below (Bq.mono (by omega))).idx (k := p) (by omega) c3
          have HO := observe2_any H (xs p) (by omega)
          have HB : Hid _ := Bq
          have HS : Hid _ := S
          have HR : Hid _ := Rw
          clear H Bq S Rw R
          go_wp2_with fail
          refine HO.mono ?_
          rintro e wt ⟨rfl, r, H2, FA, B2, KP⟩
          clear HO hcx
          go_wp2_with fail
          go_roundw
          case rel => exact ⟨lrel_next hp0 hlt H2 HS.out FA HB.out B2, KP _ _ _ (by omega) (by omega) HR.out⟩
          case measure => simp [intOf]; omega
        · obtain rfl : l3 = p := by omega
          rw [Nat.sub_zero] at H S
          have SM : Hid (Same s1 s2) := FSum.same (Same.refl s) S SW.out
          obtain ⟨v3, rfl⟩ : ∃ v3 : World, v3 = wr := ⟨_, rfl⟩
          have Bv3 := Bv2.trans (Bq.mono (by omega))
          clear S Bq h3 R H1
          go_wp2_with fail
          refine (counts_any H).mono ?_
          rintro e w' ⟨rfl, rfl⟩
          go_wp2_with fail
          go_loopw [16] (fun i wr => ARel v3 (l0 + 1) i wr) (fun i _ => l0 + 1 - (intOf i).toNat)
          case atStart => exact ⟨0, Nat.zero_le _, rfl, 0, rfl⟩
          case round =>
            obtain ⟨q, hq, rfl, mm, hwr⟩ := hrel
            have HW : Hid (wr = v3.drewN mm) := hwr
            by_cases hlt : q < l0 + 1
            · have e1 : wr.cell? ⟨w1.heap.size, q, none⟩ = some (.int .u64 (runC cs bs l0 xs 0 l3 q)) := by rw [hwr]; exact H.row.cell q hlt
              have e2 : wr.cell? ⟨w2.heap.size, q, none⟩ = some (.int .u64 (runC cs bs l0 xs 0 l3 q)) := by rw [hwr]; exact Rw.cell q hlt
              obtain ⟨x1, hx1⟩ : ∃ x1, runC cs bs l0 xs 0 l3 q = x1 := ⟨_, rfl⟩
              rw [hx1] at e1 e2
              have hql : (q : Int) < (l0 : Int) + 1 := by omega
              clear hx1 hwr H Rw
              go_wp2_with fail
              go_quiet (fail)
              go_wp2_with fail
              go_roundw
              case rel => exact ⟨q + 1, by omega, by go_num, drew_ex HW.out _⟩
              case measure => simp [intOf]; omega
            · have K1 := H.drewN mm
              rw [← hwr] at K1
              have Bz : Below w.heap.size w wr := by rw [hwr]; exact below_drewN Bv3 _
              clear hwr H Rw
              go_wp2_with fail
              refine (sum_any K1).mono ?_
              rintro e w' ⟨rfl, rfl⟩
              go_wp2_with fail
              refine (same_any SM.out _).mono ?_
              rintro e w' ⟨rfl, rfl⟩
              go_wp2_with fail
              go_ret
              exact ⟨rfl, Bz⟩

end Go.Proofs.Qxb6627541a
