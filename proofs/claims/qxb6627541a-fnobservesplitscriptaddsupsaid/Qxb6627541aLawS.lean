import Derived.Test.Qxb6627541aLoops
namespace Go.Proofs.Qxb6627541a
open Go.RowKit

set_option maxRecDepth 100000 in
set_option maxHeartbeats 8000000 in
theorem walkS (a0 a1 a3 : Option Addr) (l0 l1 l3 c0 c1 c3 s : Nat) (k : Int) (bs : Nat → Nat) (cs : Nat → Int) (xs : Nat → Nat) (w : World) (h0 : Flts w w.heap.size a0 l0 bs) (h1 : Nums w w.heap.size a1 l1 cs) (h3 : Flts w w.heap.size a3 l3 xs) :
    Calls Try.prog 4 #[.slice a0 l0 c0, .slice a1 l1 c1, .float .f64 s, .slice a3 l3 c3, .int .i64 k] w fun e w' => e = .returned (.bool true) ∧ Below w.heap.size w w' := by
  go_enter Try.func4, Try.ntmps4
  go_wp2_with fail
  refine (bytesS_any a0 a1 a3 l0 l1 l3 c0 c1 c3 s k w h0.len_le h1.len_le h3.len_le).mono ?_
  rintro e w' ⟨⟨x, rfl, hx⟩, rfl⟩
  clear hx
  cases x with
  | false =>
    go_wp2_with fail
    go_ret
    exact ⟨rfl, Below.refl _ _⟩
  | true =>
  by_cases d0 : (4096 : Int) < l0
  · go_wp2_with fail
    go_ret
    exact ⟨rfl, Below.refl _ _⟩
  by_cases d1 : (8192 : Int) < l1
  · go_wp2_with fail
    go_ret
    exact ⟨rfl, Below.refl _ _⟩
  by_cases d3 : (4096 : Int) < l3
  · go_wp2_with fail
    go_ret
    exact ⟨rfl, Below.refl _ _⟩
  by_cases k0 : k < 0
  · go_wp2_with fail
    go_ret
    exact ⟨rfl, Below.refl _ _⟩
  by_cases k1 : (l3 : Int) < k
  · go_wp2_with fail
    go_ret
    exact ⟨rfl, Below.refl _ _⟩
  obtain ⟨kk, rfl⟩ : ∃ kk : Nat, k = kk := ⟨k.toNat, by omega⟩
  by_cases hl : ((l1 : Int) != (l0 : Int) + 1) = true
  · go_wp2_with fail
    go_ret
    exact ⟨rfl, Below.refl _ _⟩
  have hl2 : l1 = l0 + 1 := by
    have e : (l1 : Int) = (l0 : Int) + 1 := by simpa using hl
    omega
  subst hl2
  clear hl
  go_wp2_with fail
  refine (ordered_any w.heap.size a0 l0 c0 bs w h0).mono ?_
  rintro e w' ⟨⟨x, rfl, hx⟩, mo, rfl⟩
  cases x with
  | false =>
    go_wp2_with fail
    go_ret
    exact ⟨rfl, below_drewN (Below.refl _ _) _⟩
  | true =>
  have hsort : Hid (Sorted bs l0) := hx rfl
  clear hx
  obtain ⟨wd, hwd⟩ : ∃ wd, w.drewN mo = wd := ⟨_, rfl⟩
  have B0 : Below w.heap.size w wd := by rw [← hwd]; exact below_drewN (Below.refl _ _) _
  have hz0 : w.heap.size ≤ wd.heap.size := B0.size
  have bd := h1.bd
  replace h0 := h0.below B0
  replace h1 := h1.below B0
  replace h3 := h3.below B0
  go_wp2_with fail
  refine (cloneF_any w.heap.size a0 l0 c0 bs wd h0 hz0 (by omega)).mono ?_
  rintro e w1 ⟨ab, cb, rfl, Fb, _, hb1⟩
  clear hwd h0
  have B1 := B0.trans (hb1.mono hz0)
  replace h1 := h1.below (hb1.mono hz0)
  replace h3 := h3.below (hb1.mono hz0)
  have hz1 : w.heap.size ≤ w1.heap.size := B1.size
  clear hb1 B0
  go_wp2_with fail
  refine (cloneU_any w.heap.size a1 (l0 + 1) c1 cs w1 h1 (by omega) hz1 (by omega)).mono ?_
  rintro e w2 ⟨rfl, R0, hb2⟩
  have B2 := B1.trans (hb2.mono hz1)
  replace h3 := h3.below (hb2.mono hz1)
  replace Fb := Fb.below hb2
  have hz2 : w1.heap.size < w2.heap.size := R0.lt
  have N0 : Nums w2 w2.heap.size (some ⟨w1.heap.size, 0, none⟩) (l0 + 1) cs := R0.nums hz2 (by unfold maxLen; omega) bd
  clear h1 hb2 B1 R0
  go_wp2_with fail
  refine (cloneF_any w1.heap.size ab l0 cb bs w2 Fb (by omega) (by omega)).mono ?_
  rintro e w3 ⟨ab1, cb1, rfl, Fb1, _, hb3⟩
  have B3 := B2.trans (hb3.mono (by omega))
  replace h3 := h3.below (hb3.mono (by omega))
  replace Fb := Fb.below (hb3.mono (by omega))
  replace N0 := N0.below hb3
  have hz3 : w2.heap.size ≤ w3.heap.size := hb3.size
  clear hb3 B2
  go_wp2_with fail
  refine (cloneU_any w2.heap.size (some ⟨w1.heap.size, 0, none⟩) (l0 + 1) _ cs w3 N0 (by omega) hz3 (by omega)).mono ?_
  rintro e w4 ⟨rfl, R1, hb4⟩
  have B4 := B3.trans (hb4.mono (by omega))
  replace h3 := h3.below (hb4.mono (by omega))
  replace Fb := Fb.below (hb4.mono (by omega))
  replace N0 := N0.below (hb4.mono hz3)
  replace Fb1 := Fb1.below hb4
  have hz4 : w3.heap.size < w4.heap.size := R1.lt
  clear hb4 B3
  go_wp2_with fail
  refine (newHist_any _ _ _ _ _ _ _ _).mono ?_
  rintro e w5 ⟨rfl, hw5⟩
  have H1 := hist_mk (B := w3.heap.size) (cb := cb1) (cc := l0 + 1) s R1 (Fb1.mono (Nat.le_of_lt hz4)) (fun h0 b off ha => by have := Fb1.blk h0 ha; omega) (Nat.le_refl _)
  rw [hw5] at H1
  have hb5 : Below w4.heap.size w4 w5 := by rw [← hw5]; exact (Below.refl _ _).alloc (Nat.le_refl _) _
  have B5 := B4.trans (hb5.mono (by omega))
  replace h3 := h3.below (hb5.mono (by omega))
  replace Fb := Fb.below (hb5.mono (by omega))
  replace N0 := N0.below (hb5.mono (by omega))
  have hz5 : w5.heap.size = w4.heap.size + 1 := by rw [← hw5]; simp
  have HZ5 : Hid (w5.heap.size = w4.heap.size + 1) := hz5
  have hz5' : w4.heap.size + 1 ≤ w5.heap.size := by omega
  clear hw5 hb5 B4 R1 Fb1 hz5
  go_wp2_with fail
  go_loopw [12] (fun i wr => LRel w5 w3.heap.size (w4.heap.size + 1) w4.heap.size w3.heap.size ab1 l0 cb1 (l0 + 1) bs cs s xs 0 l3 i wr) (fun i _ => l3 - (intOf i).toNat)
  case atStart => exact lrel_start H1 xs (by omega) (by first | rfl | go_num)
  case round =>
    obtain ⟨p, hp0, hp1, rfl, s1, H, S, Bq⟩ := hrel
    by_cases hlt : p < l3
    · obtain ⟨b, o, hix, hcx, hb⟩ := (h3.below (Bq.mono (by omega))).idx (k := p) (by omega) c3
      have HO := observe_any H (xs p) (by omega)
      have HB : Hid _ := Bq
      have HS : Hid _ := S
      clear H Bq S
      go_wp2_with fail
      refine HO.mono ?_
      rintro e wt ⟨rfl, r, H2, FA, B2⟩
      clear HO hcx
      go_wp2_with fail
      go_roundw
      case rel => first | exact lrel_next hp0 hlt H2 HS.out FA HB.out B2 | ((repeat apply Exists.intro); exact ⟨lrel_next hp0 hlt H2 HS.out FA HB.out B2, rfl⟩)
      case measure => simp [intOf]; omega
    · obtain rfl : l3 = p := by omega
      rw [Nat.sub_zero] at H S
      have H1 := H
      obtain ⟨sh1, hsh1⟩ : ∃ sh1, s1 = sh1 := ⟨_, rfl⟩
      rw [hsh1] at S H1
      have S1 : Hid (FSum xs 0 l3 s sh1) := S
      obtain ⟨v1, rfl⟩ : ∃ v1 : World, v1 = wr := ⟨_, rfl⟩
      replace h3 := h3.below (Bq.mono (by omega))
      replace Fb := Fb.below (Bq.mono (by omega))
      replace N0 := N0.below (Bq.mono (by omega))
      have Bv1 := B5.trans (Bq.mono (by omega))
      have zv1 : w5.heap.size ≤ v1.heap.size := Bq.size
      clear H S Bq B5 hsh1
      go_wp2_with fail
      refine (cloneF_any w1.heap.size ab l0 cb bs v1 Fb (by omega) (by omega)).mono ?_
      rintro e v2 ⟨ab2, cb2, rfl, Fb2, _, hb⟩
      have zv2 : v1.heap.size ≤ v2.heap.size := hb.size
      replace h3 := h3.below (hb.mono (by omega))
      replace Fb := Fb.below (hb.mono (by omega))
      replace N0 := N0.below (hb.mono (by omega))
      replace H1 := H1.below hb (by omega)
      have Bv2 := Bv1.trans (hb.mono (by omega))
      clear hb Bv1
      go_wp2_with fail
      refine (cloneU_any w2.heap.size (some ⟨w1.heap.size, 0, none⟩) (l0 + 1) _ cs v2 N0 (by omega) (by omega) (by omega)).mono ?_
      rintro e v3 ⟨rfl, R2, hb⟩
      have zv3 : v2.heap.size < v3.heap.size := R2.lt
      replace Fb2 := Fb2.below hb
      replace h3 := h3.below (hb.mono (by omega))
      replace Fb := Fb.below (hb.mono (by omega))
      replace N0 := N0.below (hb.mono (by omega))
      replace H1 := H1.below hb (by omega)
      have Bv3 := Bv2.trans (hb.mono (by omega))
      clear hb Bv2
      go_wp2_with fail
      refine (newHist_any _ _ _ _ _ _ _ _).mono ?_
      rintro e v4 ⟨rfl, hv4⟩
      have H2 := hist_mk (B := v2.heap.size) (cb := cb2) (cc := l0 + 1) s R2 (Fb2.mono (Nat.le_of_lt zv3)) (fun h0 b off ha => by have := Fb2.blk h0 ha; omega) (Nat.le_refl _)
      rw [hv4] at H2
      have hb4 : Below v3.heap.size v3 v4 := by rw [← hv4]; exact (Below.refl _ _).alloc (Nat.le_refl _) _
      have zv4 : v3.heap.size + 1 ≤ v4.heap.size := by rw [← hv4]; simp
      replace h3 := h3.below (hb4.mono (by omega))
      replace Fb := Fb.below (hb4.mono (by omega))
      replace N0 := N0.below (hb4.mono (by omega))
      replace H1 := H1.below hb4 (by omega)
      have Bv4 := Bv3.trans (hb4.mono (by omega))
      clear hv4 hb4 Bv3 R2 Fb2
      go_wp2_with fail
      go_loopw [14] (fun i wr => LRel v4 v2.heap.size (v3.heap.size + 1) v3.heap.size v2.heap.size ab2 l0 cb2 (l0 + 1) bs cs s xs 0 kk i wr) (fun i _ => kk - (intOf i).toNat)
      case atStart => exact lrel_start H2 xs (by omega) (by first | rfl | go_num)
      case round =>
        obtain ⟨p, hp0, hp1, rfl, s1, H, S, Bq⟩ := hrel
        by_cases hlt : p < kk
        · obtain ⟨b, o, hix, hcx, hb⟩ := (h3.below (Bq.mono (by omega))).idx (k := p) (by omega) c3
          have HO := observe_any H (xs p) (by omega)
          have HB : Hid _ := Bq
          have HS : Hid _ := S
          clear H Bq S
          go_wp2_with fail
          refine HO.mono ?_
          rintro e wt ⟨rfl, r, H2, FA, B2⟩
          clear HO hcx
          go_wp2_with fail
          go_roundw
          case rel => first | exact lrel_next hp0 hlt H2 HS.out FA HB.out B2 | ((repeat apply Exists.intro); exact ⟨lrel_next hp0 hlt H2 HS.out FA HB.out B2, rfl⟩)
          case measure => simp [intOf]; omega
        · obtain rfl : kk = p := by omega
          rw [Nat.sub_zero] at H S
          have H2 := H
          obtain ⟨sh2, hsh2⟩ : ∃ sh2, s1 = sh2 := ⟨_, rfl⟩
          rw [hsh2] at S H2
          have S2 : Hid (FSum xs 0 kk s sh2) := S
          obtain ⟨v5, rfl⟩ : ∃ v5 : World, v5 = wr := ⟨_, rfl⟩
          replace h3 := h3.below (Bq.mono (by omega))
          replace Fb := Fb.below (Bq.mono (by omega))
          replace N0 := N0.below (Bq.mono (by omega))
          replace H1 := H1.below Bq (by omega)
          have Bv5 := Bv4.trans (Bq.mono (by omega))
          have zv5 : v4.heap.size ≤ v5.heap.size := Bq.size
          clear H S Bq Bv4 N0 hsh2
          have hmk5 : ∃ v6, (Instr.makeSlice 23 (.int .i64 ((l0 : Int) + 1)) (.int .i64 ((l0 : Int) + 1))).run Try.prog v5 = .ok (.slice (some ⟨v5.heap.size, 0, none⟩) (l0 + 1) (l0 + 1)) v6 ∧ Row v6 v5.heap.size (l0 + 1) (fun _ => 0) ∧ v6.heap.size = v5.heap.size + 1 ∧ Below v5.heap.size v5 v6 := by
            have hr := run_make_row' (P := Try.prog) 23 30 (.int .u64 0) 8 Try.underlying23 info30 rfl .i64 .i64 (l0 + 1) (by omega) (by omega) v5
            rw [show ((l0 + 1 : Nat) : Int) = (l0 : Int) + 1 from by omega] at hr
            have F := fillcloneU_made v5 (l0 + 1) (fun _ => 0)
            refine ⟨_, hr, ⟨fun j hj => ?_, F.frozen, by simp⟩, by simp, (Below.refl _ _).alloc (Nat.le_refl _) _⟩
            have := F.cell j hj
            rw [if_neg (by omega)] at this
            exact this
          obtain ⟨v6, hmk, R3, hz6, hb6⟩ := hmk5
          have zv6 : v5.heap.size + 1 ≤ v6.heap.size := by omega
          have HZ6 : Hid (v6.heap.size = v5.heap.size + 1) := hz6
          replace h3 := h3.below (hb6.mono (by omega))
          replace Fb := Fb.below (hb6.mono (by omega))
          replace H1 := H1.below hb6 (by omega)
          replace H2 := H2.below hb6 (by omega)
          have Bv6 := Bv5.trans (hb6.mono (by omega))
          clear hz6 hb6 Bv5
          go_wp2_with fail
          refine (cloneF_any w1.heap.size ab l0 cb bs v6 Fb (by omega) (by omega)).mono ?_
          rintro e v7 ⟨ab3, cb3, rfl, Fb3, hx3, hb7⟩
          have zv7 : v6.heap.size ≤ v7.heap.size := hb7.size
          replace R3 := R3.below hb7 (by omega)
          replace h3 := h3.below (hb7.mono (by omega))
          replace Fb := Fb.below (hb7.mono (by omega))
          replace H1 := H1.below hb7 (by omega)
          replace H2 := H2.below hb7 (by omega)
          have Bv7 := Bv6.trans (hb7.mono (by omega))
          clear hb7 Bv6 hmk
          go_wp2_with fail
          refine (newHist_any _ _ _ _ _ _ _ _).mono ?_
          rintro e v8 ⟨rfl, hv8⟩
          have H3 := hist_mk (B := v5.heap.size) (cb := cb3) (cc := l0 + 1) 0 R3 Fb3 (fun h0 b off ha => by have := hx3 _ ha; dsimp only at this; omega) (Nat.le_refl _)
          rw [hv8] at H3
          have hb8 : Below v7.heap.size v7 v8 := by rw [← hv8]; exact (Below.refl _ _).alloc (Nat.le_refl _) _
          have zv8 : v7.heap.size + 1 ≤ v8.heap.size := by rw [← hv8]; simp
          replace h3 := h3.below (hb8.mono (by omega))
          replace Fb := Fb.below (hb8.mono (by omega))
          replace H1 := H1.below hb8 (by omega)
          replace H2 := H2.below hb8 (by omega)
          have Bv8 := Bv7.trans (hb8.mono (by omega))
          clear hv8 hb8 Bv7 R3 Fb3 hx3
          go_wp2_with fail
          go_loopw [17] (fun i wr => LRel v8 v5.heap.size (v7.heap.size + 1) v7.heap.size v5.heap.size ab3 l0 cb3 (l0 + 1) bs (fun _ => 0) 0 xs kk l3 i wr) (fun i _ => l3 - (intOf i).toNat)
          case atStart => exact lrel_start H3 xs (by omega) (by first | rfl | go_num)
          case round =>
            obtain ⟨p, hp0, hp1, rfl, s1, H, S, Bq⟩ := hrel
            by_cases hlt : p < l3
            · obtain ⟨b, o, hix, hcx, hb⟩ := (h3.below (Bq.mono (by omega))).idx (k := p) (by omega) c3
              have HO := observe_any H (xs p) (by omega)
              have HB : Hid _ := Bq
              have HS : Hid _ := S
              clear H Bq S
              go_wp2_with fail
              refine HO.mono ?_
              rintro e wt ⟨rfl, r, H2, FA, B2⟩
              clear HO hcx
              go_wp2_with fail
              go_roundw
              case rel => first | exact lrel_next hp0 hlt H2 HS.out FA HB.out B2 | ((repeat apply Exists.intro); exact ⟨lrel_next hp0 hlt H2 HS.out FA HB.out B2, rfl⟩)
              case measure => simp [intOf]; omega
            · obtain rfl : l3 = p := by omega
              obtain ⟨D, hD⟩ : ∃ D, l3 - kk = D := ⟨_, rfl⟩
              rw [hD] at H
              have H3 := H
              obtain ⟨v9, rfl⟩ : ∃ v9 : World, v9 = wr := ⟨_, rfl⟩
              replace h3 := h3.below (Bq.mono (by omega))
              replace Fb := Fb.below (Bq.mono (by omega))
              replace H1 := H1.below Bq (by omega)
              replace H2 := H2.below Bq (by omega)
              have Bv9 := Bv8.trans (Bq.mono (by omega))
              have zv9 : v8.heap.size ≤ v9.heap.size := Bq.size
              clear H S Bq Bv8
              go_wp2_with fail
              refine (counts_any H1).mono ?_
              rintro e w' ⟨rfl, rfl⟩
              go_wp2_with fail
              refine (counts_any H2).mono ?_
              rintro e w' ⟨rfl, rfl⟩
              go_wp2_with fail
              refine (counts_any H3).mono ?_
              rintro e w' ⟨rfl, rfl⟩
              go_wp2_with fail
              go_loopw [22, 23] (fun t i wr => TotRel v9 bs l0 xs kk D t i wr) (fun _ i _ => l0 + 1 - (intOf i).toNat)
              case atStart => exact ⟨0, Nat.zero_le _, rfl, rfl, 0, rfl⟩
              case round =>
                obtain ⟨q, hq, rfl, rfl, mt, hwr⟩ := hrel
                by_cases hlt : q < l0 + 1
                · have HW : Hid (wr = v9.drewN mt) := hwr
                  have e1 : wr.cell? ⟨w3.heap.size, q, none⟩ = some (.int .u64 (runC cs bs l0 xs 0 l3 q)) := by rw [hwr]; exact H1.row.cell q hlt
                  have e2 : wr.cell? ⟨v2.heap.size, q, none⟩ = some (.int .u64 (runC cs bs l0 xs 0 kk q)) := by rw [hwr]; exact H2.row.cell q hlt
                  have e3 : wr.cell? ⟨v5.heap.size, q, none⟩ = some (.int .u64 ((cnt bs l0 xs kk D q : Nat) : Int)) := by
                    rw [hwr]
                    refine (H3.row.cell q hlt).trans ?_
                    rw [fresh_eq (by omega)]
                  have hsum : IntKind.u64.wrap (runC cs bs l0 xs 0 kk q + ((cnt bs l0 xs kk D q : Nat) : Int)) = runC cs bs l0 xs 0 l3 q := by
                    rw [split_sum (bd q hlt), show kk + D = l3 from by omega]
                  have htb := tot_le bs l0 xs kk (q + 1) D
                  have hts : tot bs l0 xs kk D (q + 1) = tot bs l0 xs kk D q + cnt bs l0 xs kk D q := rfl
                  obtain ⟨x1, hx1⟩ : ∃ x1, runC cs bs l0 xs 0 l3 q = x1 := ⟨_, rfl⟩
                  obtain ⟨x2, hx2⟩ : ∃ x2, runC cs bs l0 xs 0 kk q = x2 := ⟨_, rfl⟩
                  obtain ⟨x3, hx3⟩ : ∃ x3, cnt bs l0 xs kk D q = x3 := ⟨_, rfl⟩
                  obtain ⟨t0, ht0⟩ : ∃ t0, tot bs l0 xs kk D q = t0 := ⟨_, rfl⟩
                  rw [hx1] at e1 hsum
                  rw [hx2] at e2 hsum
                  rw [hx3] at e3 hsum hts
                  rw [ht0] at hts ⊢
                  have htw : IntKind.u64.wrap ((t0 : Int) + (x3 : Int)) = (t0 : Int) + (x3 : Int) := by rw [IntKind.wrap_u64]; omega
                  have HT : Hid (tot bs l0 xs kk D (q + 1) = t0 + x3) := hts
                  have hql : (q : Int) < (l0 : Int) + 1 := by omega
                  clear hx1 hx2 hx3 ht0 hts htb hwr H1 H2 H3 Fb
                  go_wp2_with fail
                  go_quiet (fail)
                  go_wp2_with fail
                  go_roundw
                  case rel => exact ⟨q + 1, by omega, by go_num, by rw [HT.out]; go_num, drew_ex HW.out _⟩
                  case measure => simp [intOf]; omega
                · obtain rfl : q = l0 + 1 := by omega
                  have HWt : Hid (wr = v9.drewN mt) := hwr
                  have htall := tot_all bs l0 xs kk D
                  obtain ⟨ta, hta⟩ : ∃ ta, tot bs l0 xs kk D (l0 + 1) = ta := ⟨_, rfl⟩
                  rw [hta] at htall ⊢
                  have hconv : IntKind.u64.wrap ((l3 : Int) - (kk : Int)) = (ta : Int) := by rw [IntKind.wrap_u64]; omega
                  have hconv2 : (l3 : Int) - (kk : Int) = (ta : Int) := by omega
                  have hconv3 : IntKind.u64.wrap (ta : Int) = (ta : Int) := by rw [IntKind.wrap_u64]; omega
                  have HTA : Hid (ta = D) := htall
                  clear hwr hta htall
                  go_wp2_with fail
                  clear hconv hconv2 hconv3
                  obtain ⟨vo, rfl⟩ : ∃ vo : World, vo = wr := ⟨_, rfl⟩
                  go_loopw [24, 25] (fun t i wr => AbRel v9 bs l0 xs kk l3 t i wr) (fun _ i _ => l3 - (intOf i).toNat)
                  case atStart => exact ⟨kk, Nat.le_refl _, by omega, rfl, by rw [Nat.sub_self]; rfl, mt, HWt.out⟩
                  case round =>
                    obtain ⟨p, hp0, hp1, rfl, rfl, mm, hwr⟩ := hrel
                    have HW : Hid (wr = v9.drewN mm) := hwr
                    by_cases hlt : p < l3
                    · obtain ⟨b, o, hix, hcx, _⟩ := h3.idx hlt c3
                      have e1 : wr.cell? ⟨b, o, none⟩ = some (.float .f64 (xs p)) := by rw [hwr]; exact hcx
                      have hcn := cnt_next (bs := bs) (n := l0) (xs := xs) (j := l0) hp0
                      have hcb := cnt_le bs l0 xs kk l0 (p - kk)
                      obtain ⟨ca, hca⟩ : ∃ ca, cnt bs l0 xs kk (p - kk) l0 = ca := ⟨_, rfl⟩
                      rw [hca] at hcn hcb ⊢
                      rcases Nat.eq_zero_or_pos l0 with hz | hz
                      · have hb0 : l0 = bkt bs (xs p) l0 := by have := bkt_le bs (xs p) l0; omega
                        rw [if_pos hb0] at hcn
                        have HC : Hid (cnt bs l0 xs kk (p + 1 - kk) l0 = ca + 1) := hcn
                        have hd : ((l0 : Int) == 0) = true := by simp [hz]
                        clear hcn hca hb0 hz hcx hwr H1 H2 H3 Fb
                        go_wp2_with fail
                        go_quiet (fail)
                        go_wp2_with fail
                        go_roundw
                        case rel => exact ⟨p + 1, by omega, by omega, by go_num, by rw [HC.out]; go_num, drew_ex HW.out _⟩
                        case measure => simp [intOf]; omega
                      · obtain ⟨l, hl⟩ : ∃ l, l0 = l + 1 := ⟨l0 - 1, by omega⟩
                        obtain ⟨b2, o2, hix2, hcx2, _⟩ := Fb.idx (k := l) (by omega) cb
                        have e2 : wr.cell? ⟨b2, o2, none⟩ = some (.float .f64 (bs l)) := by rw [hwr]; exact hcx2
                        have hd : ((l0 : Int) == 0) = false := by simp; omega
                        have hgt := gtF_iff (xs p) (bs l)
                        have hlast : (l0 = bkt bs (xs p) l0) ↔ ltF (bs l) (xs p) = true := by
                          rw [hl]
                          rw [eq_comm]
                          exact bkt_last (by rw [← hl]; exact hsort.out) (xs p)
                        have hsub : (l0 : Int) - 1 = (l : Int) := by omega
                        have hwrap : IntKind.i64.wrap ((l0 : Int) - 1) = (l : Int) := by rw [IntKind.wrap_i64]; omega
                        have hwrap2 : IntKind.i64.wrap (l : Int) = (l : Int) := by rw [IntKind.wrap_i64]; omega
                        cases hlv : ltF (bs l) (xs p)
                        · rw [hlv] at hgt hlast
                          rw [if_neg (by rw [hlast]; simp)] at hcn
                          have HC : Hid (cnt bs l0 xs kk (p + 1 - kk) l0 = ca) := hcn
                          clear hcn hca hlast hlv hl hz hcx hcx2 hwr H1 H2 H3 Fb
                          go_wp2_with fail
                          go_quiet (fail)
                          go_wp2_with fail
                          go_roundw
                          case rel => exact ⟨p + 1, by omega, by omega, by go_num, by rw [HC.out], drew_ex HW.out _⟩
                          case measure => simp [intOf]; omega
                        · rw [hlv] at hgt hlast
                          rw [if_pos (hlast.2 rfl)] at hcn
                          have HC : Hid (cnt bs l0 xs kk (p + 1 - kk) l0 = ca + 1) := hcn
                          clear hcn hca hlast hlv hl hz hcx hcx2 hwr H1 H2 H3 Fb
                          go_wp2_with fail
                          go_quiet (fail)
                          go_wp2_with fail
                          go_roundw
                          case rel => exact ⟨p + 1, by omega, by omega, by go_num, by rw [HC.out]; go_num, drew_ex HW.out _⟩
                          case measure => simp [intOf]; omega
                    · obtain rfl : l3 = p := by omega
                      have K1 := H1.drewN mm
                      have K2 := H2.drewN mm
                      rw [← hwr] at K1 K2
                      have e3 : wr.cell? ⟨v5.heap.size, l0, none⟩ = some (.int .u64 ((cnt bs l0 xs kk D l0 : Nat) : Int)) := by
                        rw [hwr]
                        refine (H3.row.cell l0 (by omega)).trans ?_
                        rw [fresh_eq (by omega)]
                      have g3 : Flts wr w.heap.size a3 l3 xs := by rw [hwr]; exact ⟨h3.cells, h3.len_le⟩
                      have Bv10 : Below w.heap.size w wr := by rw [hwr]; exact below_drewN Bv9 _
                      have zv10 : wr.heap.size = v9.heap.size := by rw [hwr]; rfl
                      have zv10' : v9.heap.size ≤ wr.heap.size := by omega
                      have ed : l3 - kk = D := by omega
                      rw [ed]
                      have hcl := cnt_le bs l0 xs kk l0 D
                      have hcv : IntKind.u64.wrap ((cnt bs l0 xs kk D l0 : Nat) : Int) = ((cnt bs l0 xs kk D l0 : Nat) : Int) := by rw [IntKind.wrap_u64]; omega
                      obtain ⟨ca, hca⟩ : ∃ ca, cnt bs l0 xs kk D l0 = ca := ⟨_, rfl⟩
                      rw [hca] at e3 hcv ⊢
                      have hidx : (l0 : Int) + 1 - 1 = (l0 : Int) := by omega
                      clear hwr H1 H2 H3 h3 Fb hcl hca zv10 ed
                      obtain ⟨v10, rfl⟩ : ∃ v10 : World, v10 = wr := ⟨_, rfl⟩
                      have H1 := K1
                      have H2 := K2
                      have h3 := g3
                      clear K1 K2 g3
                      go_wp2_with fail
                      clear e3 hcv hidx
                      go_loopw [26] (fun i wr => LRel v10 v2.heap.size (v3.heap.size + 1) v3.heap.size v2.heap.size ab2 l0 cb2 (l0 + 1) bs (runC cs bs l0 xs 0 kk) sh2 xs kk l3 i wr) (fun i _ => l3 - (intOf i).toNat)
                      case atStart => exact lrel_start H2 xs (by omega) (by first | rfl | go_num)
                      case round =>
                        obtain ⟨p, hp0, hp1, rfl, s1, H, S, Bq⟩ := hrel
                        by_cases hlt : p < l3
                        · obtain ⟨b, o, hix, hcx, hb⟩ := (h3.below (Bq.mono (by omega))).idx (k := p) (by omega) c3
                          have HO := observe_any H (xs p) (by omega)
                          have HB : Hid _ := Bq
                          have HS : Hid _ := S
                          clear H Bq S
                          go_wp2_with fail
                          refine HO.mono ?_
                          rintro e wt ⟨rfl, r, H2, FA, B2⟩
                          clear HO hcx
                          go_wp2_with fail
                          go_roundw
                          case rel => first | exact lrel_next hp0 hlt H2 HS.out FA HB.out B2 | ((repeat apply Exists.intro); exact ⟨lrel_next hp0 hlt H2 HS.out FA HB.out B2, rfl⟩)
                          case measure => simp [intOf]; omega
                        · obtain rfl : l3 = p := by omega
                          have ed : l3 - kk = D := by omega
                          rw [ed] at H S
                          have er : runC (runC cs bs l0 xs 0 kk) bs l0 xs kk D = runC cs bs l0 xs 0 l3 := by
                            have := runC_append cs bs l0 xs 0 kk D
                            rw [Nat.zero_add] at this
                            rw [this, show kk + D = l3 from by omega]
                          rw [er] at H
                          have H2 := H
                          have SS : FSum xs 0 (kk + D) s s1 := FSum.append S2.out (by rw [Nat.zero_add]; exact S)
                          rw [show kk + D = l3 from by omega] at SS
                          have SM : Hid (Same s1 sh1) := FSum.same (Same.refl s) SS S1.out
                          obtain ⟨v12, rfl⟩ : ∃ v12 : World, v12 = wr := ⟨_, rfl⟩
                          replace H1 := H1.below Bq (by omega)
                          have Bv12 := Bv10.trans (Bq.mono (by omega))
                          clear H S Bq er ed SS h3
                          go_wp2_with fail
                          refine (counts_any H2).mono ?_
                          rintro e w' ⟨rfl, rfl⟩
                          go_wp2_with fail
                          go_loopw [27] (fun i wr => ARel v12 (l0 + 1) i wr) (fun i _ => l0 + 1 - (intOf i).toNat)
                          case atStart => exact ⟨0, Nat.zero_le _, rfl, 0, rfl⟩
                          case round =>
                            obtain ⟨q, hq, rfl, mm, hwr⟩ := hrel
                            have HW : Hid (wr = v12.drewN mm) := hwr
                            by_cases hlt : q < l0 + 1
                            · have e1 : wr.cell? ⟨w3.heap.size, q, none⟩ = some (.int .u64 (runC cs bs l0 xs 0 l3 q)) := by rw [hwr]; exact H1.row.cell q hlt
                              have e2 : wr.cell? ⟨v2.heap.size, q, none⟩ = some (.int .u64 (runC cs bs l0 xs 0 l3 q)) := by rw [hwr]; exact H2.row.cell q hlt
                              obtain ⟨x1, hx1⟩ : ∃ x1, runC cs bs l0 xs 0 l3 q = x1 := ⟨_, rfl⟩
                              rw [hx1] at e1 e2
                              have hql : (q : Int) < (l0 : Int) + 1 := by omega
                              clear hx1 hwr H1 H2
                              go_wp2_with fail
                              go_quiet (fail)
                              go_wp2_with fail
                              go_roundw
                              case rel => exact ⟨q + 1, by omega, by go_num, drew_ex HW.out _⟩
                              case measure => simp [intOf]; omega
                            · have K1 := H1.drewN mm
                              have K2 := H2.drewN mm
                              rw [← hwr] at K1 K2
                              have Bz : Below w.heap.size w wr := by rw [hwr]; exact below_drewN Bv12 _
                              clear hwr H1 H2
                              go_wp2_with fail
                              refine (sum_any K2).mono ?_
                              rintro e w' ⟨rfl, rfl⟩
                              go_wp2_with fail
                              refine (sum_any K1).mono ?_
                              rintro e w' ⟨rfl, rfl⟩
                              go_wp2_with fail
                              refine (same_any SM.out _).mono ?_
                              rintro e w' ⟨rfl, rfl⟩
                              go_wp2_with fail
                              go_ret
                              exact ⟨rfl, Bz⟩

end Go.Proofs.Qxb6627541a
