import Derived.Test.Qxb6627578aFmtMask
namespace Go.Proofs.Qxb6627578aFmt
open Go.RowKit Go.Extern.Stop Go.Stop Go.Extern

set_option maxRecDepth 100000 in
set_option maxHeartbeats 4000000 in
theorem walkL (F : Interp) (a : Option Addr) (l c : Nat) (p : Int) (zs : Nat → Int) (w : World) (h : Byts w w.heap.size a l zs) (hF : F.answers w.tape) :
    Calls Tryf.prog 3 #[.slice a l c, .int .i64 p] w fun e w' => e = .returned (.bool true) ∧ Below w.heap.size w w' := by
  have q : ∀ (w : World) (a : Option Addr) (n c : Nat), (binOp .eql 26 (.slice a n c) (.slice none 0 0)).run Tryf.prog w = .ok (.bool a.isNone) w := fun w a n c => Lib.run_eql_slice_nil w _ _ a n c 0 0 Tryf.underlying26
  have HF : Hid (F.answers w.tape) := hF
  clear hF
  go_enter Tryf.func3, Tryf.ntmps3
  go_wp2_with fail
  refine (bytes_any a l c p w h.len_le).mono ?_
  rintro e w' ⟨⟨x, rfl, hx⟩, rfl⟩
  clear hx
  cases x with
  | false =>
    go_wp2_with fail
    go_ret
    exact ⟨rfl, Below.refl _ _⟩
  | true =>
  by_cases d0 : (1048576 : Int) < l
  · go_wp2_with fail
    go_ret
    exact ⟨rfl, Below.refl _ _⟩
  by_cases k0 : p < 0
  · go_wp2_with fail
    go_ret
    exact ⟨rfl, Below.refl _ _⟩
  by_cases k1 : (1073741824 : Int) < p
  · go_wp2_with fail
    go_ret
    exact ⟨rfl, Below.refl _ _⟩
  obtain ⟨pp, rfl⟩ : ∃ pp : Nat, p = pp := ⟨p.toNat, by omega⟩
  go_wp2_with fail
  refine (clone_two w.heap.size a l c zs w h (Nat.le_refl _) (by omega)).mono ?_
  rintro e w1 ⟨a1, c1, rfl, H1, B1, -⟩
  have hz1 : w.heap.size ≤ w1.heap.size := B1.size
  clear h
  by_cases n0 : l = 0
  · by_cases p0 : pp = 0
    · subst n0 p0
      go_wp2_with fail
      refine (clone_two w1.heap.size a1 0 c1 zs w1 H1 (Nat.le_refl _) (by omega)).mono ?_
      rintro e w2 ⟨a2, c2, rfl, H2, B2, -⟩
      have hz2 : w1.heap.size ≤ w2.heap.size := B2.size
      replace H1 := (H1.below B2).mono hz2
      have BW := B1.trans (B2.mono hz1)
      go_wp2_with fail
      go_loopw [8] (fun i wr => i = .int .i64 0 ∧ wr = w2) (fun _ _ => 0)
      case atStart => exact ⟨rfl, rfl⟩
      case round =>
        obtain ⟨rfl, rfl⟩ := hrel
        go_wp2_with fail
        have E1 := parse_even a1 0 c1 0 zs wr H1 (by omega) (by omega) (by omega)
        go_wp2_with fail
        refine E1.mono ?_
        rintro e w3 ⟨a3, c3, rfl, H3, B3⟩
        clear E1
        have hz3 : wr.heap.size ≤ w3.heap.size := B3.size
        replace H1 := H1.below (B3.mono (by omega))
        replace H2 := H2.below (B3.mono (by omega))
        have E2 := parse_even a2 0 c2 0 zs w3 (H2.mono (by omega)) (by omega) (by omega) (by omega)
        go_wp2_with fail
        refine E2.mono ?_
        rintro e w4 ⟨a4, c4, rfl, H4, B4⟩
        clear E2
        have hz4 : w3.heap.size ≤ w4.heap.size := B4.size
        replace H1 := (H1.below (B4.mono (by omega))).mono (show _ ≤ w4.heap.size by omega)
        replace H2 := (H2.below (B4.mono (by omega))).mono (show _ ≤ w4.heap.size by omega)
        replace H3 := (H3.below (B4.mono (by omega))).mono (show _ ≤ w4.heap.size by omega)
        have BW := (BW.trans (B3.mono (by omega))).trans (B4.mono (by omega))
        have E3 := same_any w4.heap.size a4 a2 0 c4 0 c2 zs zs w4 H4 H2
        go_wp2_with fail
        refine E3.mono ?_
        rintro e w5 ⟨⟨x, rfl, hx⟩, m5, rfl⟩
        have hxt : x = true := hx.2 ⟨rfl, fun _ _ => rfl⟩
        subst hxt
        clear E3 hx
        have E4 := same_any w4.heap.size a1 a2 0 c1 0 c2 zs zs (w4.drewN m5) (H1.drewN m5) (H2.drewN m5)
        go_wp2_with fail
        refine E4.mono ?_
        rintro e w6 ⟨⟨x, rfl, hx⟩, m6, rfl⟩
        have hxt : x = true := hx.2 ⟨rfl, fun _ _ => rfl⟩
        subst hxt
        clear E4 hx
        have E5 := same_any w4.heap.size a3 a1 0 c3 0 c1 zs zs (w4.drewN (m5 + m6)) (H3.drewN _) (H1.drewN _)
        go_wp2_with fail
        refine E5.mono ?_
        rintro e w7 ⟨⟨x, rfl, hx⟩, m7, rfl⟩
        have hxt : x = true := hx.2 ⟨rfl, fun _ _ => rfl⟩
        subst hxt
        clear E5 hx
        go_wp2_with fail
        go_ret
        first | exact ⟨rfl, below_drewN BW _⟩ | exact ⟨rfl, below_drewN (below_drewN BW _) _⟩ | exact ⟨rfl, below_drewN (below_drewN (below_drewN BW _) _) _⟩

    · have t1 : ((l : Int) == 0) = true := by simp [n0]
      have t2 : ((pp : Int) == 0) = false := by simp [p0]
      have t3 : ¬ (0 : Int) < l := by omega
      have NE : Hid (((l : Int) != ((pp : Int) + 7) / 8) = true) := (by simp; omega : ((l : Int) != ((pp : Int) + 7) / 8) = true)
      clear p0 n0
      go_wp2_with fail
      refine (clone_two w1.heap.size a1 l c1 zs w1 H1 (Nat.le_refl _) (by omega)).mono ?_
      rintro e w2 ⟨a2, c2, rfl, H2, B2, -⟩
      have hz2 : w1.heap.size ≤ w2.heap.size := B2.size
      have hne : ((l : Int) != ((pp : Int) + 7) / 8) = true := NE.out
      have E1 := parse_size F a1 l c1 (pp : Int) w2 (by rw [B2.tape, B1.tape]; exact HF.out) (by omega) (by omega) hne
      go_wp2_with fail
      refine E1.mono ?_
      rintro e w3 ⟨x3, rfl, B3⟩
      have hz3 : w2.heap.size ≤ w3.heap.size := B3.size
      have E2 := parse_size F a2 l c2 (pp : Int) w3 (by rw [B3.tape, B2.tape, B1.tape]; exact HF.out) (by omega) (by omega) hne
      clear E1
      go_wp2_with fail
      refine E2.mono ?_
      rintro e w4 ⟨x4, rfl, B4⟩
      clear E2 hne
      go_wp2_with fail
      go_ret
      exact ⟨rfl, ((B1.trans (B2.mono (by omega))).trans (B3.mono (by omega))).trans (B4.mono (by omega))⟩

  · have t1 : ((l : Int) == 0) = false := by simp [n0]
    have t3 : (0 : Int) < l := by omega
    by_cases p1 : (8 : Int) * l - 8 < pp
    · by_cases p2 : (pp : Int) ≤ 8 * l
      · obtain ⟨m, hml⟩ : ∃ m, l = m + 1 := ⟨l - 1, by omega⟩
        have HL : Hid (l = m + 1) := hml
        have hm1 : m < l := by omega
        have hm2 : l ≤ m + 1 := by omega
        clear n0 hml
        go_wp2_with fail
        refine (clone_two w1.heap.size a1 l c1 zs w1 H1 (Nat.le_refl _) (by omega)).mono ?_
        rintro e w2 ⟨a2, c2, rfl, H2, B2, hrow⟩
        obtain ⟨rfl, R⟩ := hrow (by omega)
        have hz2 : w1.heap.size < w2.heap.size := R.lt
        replace H1 := H1.below B2
        have bd := H1.bd
        have BW := B1.trans (B2.mono hz1)
        obtain ⟨r, hr⟩ : ∃ r : Nat, pp % 8 = r := ⟨_, rfl⟩
        obtain ⟨z, hz⟩ : ∃ z : Nat, zs m = (z : Int) := ⟨(zs m).toNat, by have := bd m (by omega); omega⟩
        have hz256 : z < 256 := by have := bd m (by omega); omega
        have R2 : Row w2 w1.heap.size l (msk zs m r 0) := R.congr (fun j hj => by unfold msk clrN; by_cases e : j = m <;> simp [e, hz])
        have HR8 : Hid (pp % 8 = r) := hr
        have HZ : Hid (zs m = (z : Int)) := hz
        have BD : Hid (∀ j, j < l → 0 ≤ zs j ∧ zs j < 256) := bd
        clear R H2 B2 hr hz bd hrow
        go_wp2_with fail
        go_loopw [8] (fun i wr => MRel w2 w1.heap.size l m pp r zs i wr) (fun i _ => 8 * l - (intOf i).toNat)
        case atStart => exact ⟨0, by omega, rfl, R2, Below.refl _ _⟩
        case round =>
          obtain ⟨k, hk, rfl, R, Bq⟩ := hrel
          by_cases hlt : pp + k < 8 * l
          · have hr := HR8.out
            have hdiv : ((pp + k : Nat) : Int) / 8 = (m : Int) := by omega
            have hmod : ((pp + k : Nat) : Int) % 8 = ((r + k : Nat) : Int) := by omega
            have hcm := R.cell m (by omega)
            have hfm := R.frozen m (by omega)
            obtain ⟨i, hi⟩ : ∃ i : Nat, pp + k = i := ⟨_, rfl⟩
            obtain ⟨t, ht⟩ : ∃ t : Nat, r + k = t := ⟨_, rfl⟩
            rw [hi] at hdiv hmod hlt ⊢
            rw [ht] at hmod
            have ht8 : t < 8 := by omega
            have hi30 : i ≤ 8388608 := by omega
            have hti : (t : Int) < 8 := by omega
            have e : msk zs m r k m = ((clrN z r k : Nat) : Int) := by unfold msk; rw [if_pos rfl, HZ.out, Int.toNat_natCast]
            rw [e] at hcm
            have hcl := clrN_lt hz256 r k
            obtain ⟨y, hy⟩ : ∃ y : Nat, clrN z r k = y := ⟨_, rfl⟩
            rw [hy] at hcm hcl
            have HI : Hid (pp + k = i) := hi
            have HT : Hid (r + k = t) := ht
            have HY : Hid (clrN z r k = y) := hy
            have HQ : Hid _ := R
            have HB : Hid _ := Bq
            clear R Bq hr hi ht e hy R2 hk
            go_wp2_with fail
            go_roundw
            case rel => exact mrel_next HI.out HT.out HY.out HZ.out hz256 hlt HQ.out HB.out hm1
            case measure => simp [intOf]; omega
          · have hkk : pp + k = 8 * l := by omega
            have hr := HR8.out
            have MB := msk_bd (k := k) (r := r) (l := l) HZ.out hz256 BD.out
            have zv : w2.heap.size ≤ wr.heap.size := Bq.size
            replace H1 := (H1.below Bq).mono (show _ ≤ wr.heap.size by omega)
            have BW := BW.trans (Bq.mono (by omega))
            have H2 := R.byts (B := wr.heap.size) R.lt (by unfold maxLen; omega) MB
            have hn : Hid (l = (pp + 7) / 8) := (by omega : l = (pp + 7) / 8)
            by_cases r0 : r = 0
            · have kz : k = 0 := by omega
              have MS : Hid (∀ j, j < l → zs j = msk zs m r k j) := fun j hj => by
                subst kz
                unfold msk clrN
                by_cases e : j = m
                · rw [if_pos e, HZ.out, e, HZ.out]; simp
                · rw [if_neg e]
              have P8 : Hid ((pp : Int) % 8 = 0) := (by omega : (pp : Int) % 8 = 0)
              obtain ⟨ys, hys⟩ : ∃ ys, msk zs m r k = ys := ⟨_, rfl⟩
              rw [hys] at MS H2
              clear hys R R2 Bq MB hr hkk r0 kz hk
              have E1 := parse_even a1 l c1 pp zs wr H1 (by omega) hn.out P8.out
              go_wp2_with fail
              refine E1.mono ?_
              rintro e w3 ⟨a3, c3, rfl, H3, B3⟩
              clear E1
              have hz3 : wr.heap.size ≤ w3.heap.size := B3.size
              replace H1 := H1.below (B3.mono (by omega))
              replace H2 := H2.below (B3.mono (by omega))
              have E2 := parse_even (some ⟨w1.heap.size, 0, none⟩) l c2 pp ys w3 (H2.mono (by omega)) (by omega) hn.out P8.out
              go_wp2_with fail
              refine E2.mono ?_
              rintro e w4 ⟨a4, c4, rfl, H4, B4⟩
              clear E2
              have hz4 : w3.heap.size ≤ w4.heap.size := B4.size
              replace H1 := (H1.below (B4.mono (by omega))).mono (show _ ≤ w4.heap.size by omega)
              replace H2 := (H2.below (B4.mono (by omega))).mono (show _ ≤ w4.heap.size by omega)
              replace H3 := (H3.below (B4.mono (by omega))).mono (show _ ≤ w4.heap.size by omega)
              have BW := (BW.trans (B3.mono (by omega))).trans (B4.mono (by omega))
              have E3 := same_any w4.heap.size a4 (some ⟨w1.heap.size, 0, none⟩) l c4 l c2 ys ys w4 H4 H2
              go_wp2_with fail
              refine E3.mono ?_
              rintro e w5 ⟨⟨x, rfl, hx⟩, m5, rfl⟩
              have hxt : x = true := hx.2 ⟨rfl, fun _ _ => rfl⟩
              subst hxt
              clear E3 hx
              have E4 := same_any w4.heap.size a1 (some ⟨w1.heap.size, 0, none⟩) l c1 l c2 zs ys (w4.drewN m5) (H1.drewN m5) (H2.drewN m5)
              go_wp2_with fail
              refine E4.mono ?_
              rintro e w6 ⟨⟨x, rfl, hx⟩, m6, rfl⟩
              have hxt : x = true := hx.2 ⟨rfl, MS.out⟩
              subst hxt
              clear E4 hx
              have E5 := same_any w4.heap.size a3 a1 l c3 l c1 zs zs (w4.drewN (m5 + m6)) (H3.drewN _) (H1.drewN _)
              go_wp2_with fail
              refine E5.mono ?_
              rintro e w7 ⟨⟨x, rfl, hx⟩, m7, rfl⟩
              have hxt : x = true := hx.2 ⟨rfl, fun _ _ => rfl⟩
              subst hxt
              clear E5 hx
              go_wp2_with fail
              go_ret
              first | exact ⟨rfl, below_drewN BW _⟩ | exact ⟨rfl, below_drewN (below_drewN BW _) _⟩ | exact ⟨rfl, below_drewN (below_drewN (below_drewN BW _) _) _⟩

            · have kz : k = 8 - r := by omega
              have hr8 : r < 8 := by omega
              have hr0 : 0 < r := by omega
              have MZ := msk_zero (zs := zs) (m := m) HZ.out hz256 hr8
              have MQ := msk_same (zs := zs) (m := m) HZ.out hz256 hr8
              rw [← kz] at MZ MQ
              by_cases sp : IntKind.u8.wrap (zs m * 2 ^ r) = 0
              · have MS : Hid (∀ j, j < l → zs j = msk zs m r k j) := fun j hj => by
                  by_cases e : j = m
                  · rw [e]; exact MQ.2 sp
                  · unfold msk; rw [if_neg e]
                obtain ⟨ys, hys⟩ : ∃ ys, msk zs m r k = ys := ⟨_, rfl⟩
                rw [hys] at MS H2 MZ
                have MZ' : Hid (IntKind.u8.wrap (ys m * 2 ^ r) = 0) := MZ
                have SP : Hid (IntKind.u8.wrap (zs m * 2 ^ r) = 0) := sp
                clear hys R R2 Bq MB hr hkk r0 kz hk MZ MQ sp
                have E1 := odd_l a1 l m c1 pp r zs wr HL.out H1 (by omega) hn.out HR8.out hr0 SP.out
                go_wp2_with fail
                refine E1.mono ?_
                rintro e w3 ⟨a3, c3, rfl, H3, B3⟩
                clear E1
                have hz3 : wr.heap.size ≤ w3.heap.size := B3.size
                replace H1 := H1.below (B3.mono (by omega))
                replace H2 := H2.below (B3.mono (by omega))
                have E2 := odd_l (some ⟨w1.heap.size, 0, none⟩) l m c2 pp r ys w3 HL.out (H2.mono (by omega)) (by omega) hn.out HR8.out hr0 MZ'.out
                go_wp2_with fail
                refine E2.mono ?_
                rintro e w4 ⟨a4, c4, rfl, H4, B4⟩
                clear E2
                have hz4 : w3.heap.size ≤ w4.heap.size := B4.size
                replace H1 := (H1.below (B4.mono (by omega))).mono (show _ ≤ w4.heap.size by omega)
                replace H2 := (H2.below (B4.mono (by omega))).mono (show _ ≤ w4.heap.size by omega)
                replace H3 := (H3.below (B4.mono (by omega))).mono (show _ ≤ w4.heap.size by omega)
                have BW := (BW.trans (B3.mono (by omega))).trans (B4.mono (by omega))
                have E3 := same_any w4.heap.size a4 (some ⟨w1.heap.size, 0, none⟩) l c4 l c2 ys ys w4 H4 H2
                go_wp2_with fail
                refine E3.mono ?_
                rintro e w5 ⟨⟨x, rfl, hx⟩, m5, rfl⟩
                have hxt : x = true := hx.2 ⟨rfl, fun _ _ => rfl⟩
                subst hxt
                clear E3 hx
                have E4 := same_any w4.heap.size a1 (some ⟨w1.heap.size, 0, none⟩) l c1 l c2 zs ys (w4.drewN m5) (H1.drewN m5) (H2.drewN m5)
                go_wp2_with fail
                refine E4.mono ?_
                rintro e w6 ⟨⟨x, rfl, hx⟩, m6, rfl⟩
                have hxt : x = true := hx.2 ⟨rfl, MS.out⟩
                subst hxt
                clear E4 hx
                have E5 := same_any w4.heap.size a3 a1 l c3 l c1 zs zs (w4.drewN (m5 + m6)) (H3.drewN _) (H1.drewN _)
                go_wp2_with fail
                refine E5.mono ?_
                rintro e w7 ⟨⟨x, rfl, hx⟩, m7, rfl⟩
                have hxt : x = true := hx.2 ⟨rfl, fun _ _ => rfl⟩
                subst hxt
                clear E5 hx
                go_wp2_with fail
                go_ret
                first | exact ⟨rfl, below_drewN BW _⟩ | exact ⟨rfl, below_drewN (below_drewN BW _) _⟩ | exact ⟨rfl, below_drewN (below_drewN (below_drewN BW _) _) _⟩

              · have MD : Hid (¬ ∀ j, j < l → zs j = msk zs m r k j) := fun hall => sp (MQ.1 (hall m hm1))
                obtain ⟨ys, hys⟩ : ∃ ys, msk zs m r k = ys := ⟨_, rfl⟩
                rw [hys] at MD H2 MZ
                have MZ' : Hid (IntKind.u8.wrap (ys m * 2 ^ r) = 0) := MZ
                have SP : Hid (¬ IntKind.u8.wrap (zs m * 2 ^ r) = 0) := sp
                clear hys R R2 Bq MB hr hkk r0 kz hk MZ MQ sp
                have E1 := spare_l wr.heap.size a1 l m c1 pp r zs wr HL.out H1 (by omega) hn.out HR8.out hr0 SP.out
                go_wp2_with fail
                refine E1.mono ?_
                rintro e w3 ⟨x3, rfl, B3⟩
                clear E1
                have hz3 : wr.heap.size ≤ w3.heap.size := B3.size
                replace H1 := H1.below (B3.mono (by omega))
                replace H2 := H2.below (B3.mono (by omega))
                have E2 := odd_l (some ⟨w1.heap.size, 0, none⟩) l m c2 pp r ys w3 HL.out (H2.mono (by omega)) (by omega) hn.out HR8.out hr0 MZ'.out
                go_wp2_with fail
                refine E2.mono ?_
                rintro e w4 ⟨a4, c4, rfl, H4, B4⟩
                clear E2
                have hz4 : w3.heap.size ≤ w4.heap.size := B4.size
                replace H1 := (H1.below (B4.mono (by omega))).mono (show _ ≤ w4.heap.size by omega)
                replace H2 := (H2.below (B4.mono (by omega))).mono (show _ ≤ w4.heap.size by omega)
                have BW := (BW.trans (B3.mono (by omega))).trans (B4.mono (by omega))
                have E3 := same_any w4.heap.size a4 (some ⟨w1.heap.size, 0, none⟩) l c4 l c2 ys ys w4 H4 H2
                go_wp2_with fail
                refine E3.mono ?_
                rintro e w5 ⟨⟨x, rfl, hx⟩, m5, rfl⟩
                have hxt : x = true := hx.2 ⟨rfl, fun _ _ => rfl⟩
                subst hxt
                clear E3 hx
                have E4 := same_any w4.heap.size a1 (some ⟨w1.heap.size, 0, none⟩) l c1 l c2 zs ys (w4.drewN m5) (H1.drewN m5) (H2.drewN m5)
                go_wp2_with fail
                refine E4.mono ?_
                rintro e w6 ⟨⟨x, rfl, hx⟩, m6, rfl⟩
                have hxf : x = false := by
                  cases x with
                  | false => rfl
                  | true => exact absurd (hx.1 rfl).2 MD.out
                subst hxf
                clear E4 hx
                go_wp2_with fail
                go_ret
                first | exact ⟨rfl, below_drewN BW _⟩ | exact ⟨rfl, below_drewN (below_drewN BW _) _⟩


      · have NE : Hid (((l : Int) != ((pp : Int) + 7) / 8) = true) := (by simp; omega : ((l : Int) != ((pp : Int) + 7) / 8) = true)
        clear n0
        go_wp2_with fail
        refine (clone_two w1.heap.size a1 l c1 zs w1 H1 (Nat.le_refl _) (by omega)).mono ?_
        rintro e w2 ⟨a2, c2, rfl, H2, B2, -⟩
        have hz2 : w1.heap.size ≤ w2.heap.size := B2.size
        have hne : ((l : Int) != ((pp : Int) + 7) / 8) = true := NE.out
        have E1 := parse_size F a1 l c1 (pp : Int) w2 (by rw [B2.tape, B1.tape]; exact HF.out) (by omega) (by omega) hne
        go_wp2_with fail
        refine E1.mono ?_
        rintro e w3 ⟨x3, rfl, B3⟩
        have hz3 : w2.heap.size ≤ w3.heap.size := B3.size
        have E2 := parse_size F a2 l c2 (pp : Int) w3 (by rw [B3.tape, B2.tape, B1.tape]; exact HF.out) (by omega) (by omega) hne
        clear E1
        go_wp2_with fail
        refine E2.mono ?_
        rintro e w4 ⟨x4, rfl, B4⟩
        clear E2 hne
        go_wp2_with fail
        go_ret
        exact ⟨rfl, ((B1.trans (B2.mono (by omega))).trans (B3.mono (by omega))).trans (B4.mono (by omega))⟩
        all_goals (exfalso; have hq : (!decide ((pp : Int) ≤ 8 * l)) = false := by assumption
                   simp at hq; omega)

    · have NE : Hid (((l : Int) != ((pp : Int) + 7) / 8) = true) := (by simp; omega : ((l : Int) != ((pp : Int) + 7) / 8) = true)
      clear n0
      go_wp2_with fail
      refine (clone_two w1.heap.size a1 l c1 zs w1 H1 (Nat.le_refl _) (by omega)).mono ?_
      rintro e w2 ⟨a2, c2, rfl, H2, B2, -⟩
      have hz2 : w1.heap.size ≤ w2.heap.size := B2.size
      have hne : ((l : Int) != ((pp : Int) + 7) / 8) = true := NE.out
      have E1 := parse_size F a1 l c1 (pp : Int) w2 (by rw [B2.tape, B1.tape]; exact HF.out) (by omega) (by omega) hne
      go_wp2_with fail
      refine E1.mono ?_
      rintro e w3 ⟨x3, rfl, B3⟩
      have hz3 : w2.heap.size ≤ w3.heap.size := B3.size
      have E2 := parse_size F a2 l c2 (pp : Int) w3 (by rw [B3.tape, B2.tape, B1.tape]; exact HF.out) (by omega) (by omega) hne
      clear E1
      go_wp2_with fail
      refine E2.mono ?_
      rintro e w4 ⟨x4, rfl, B4⟩
      clear E2 hne
      go_wp2_with fail
      go_ret
      exact ⟨rfl, ((B1.trans (B2.mono (by omega))).trans (B3.mono (by omega))).trans (B4.mono (by omega))⟩


end Go.Proofs.Qxb6627578aFmt
