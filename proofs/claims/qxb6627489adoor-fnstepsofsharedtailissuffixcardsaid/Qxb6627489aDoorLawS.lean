import Derived.Test.Qxb6627489aDoorChain
import Derived.Deep.RegionHeld
namespace Go.Proofs.Qxb6627489aDoor
open Go.RowKit

set_option maxRecDepth 100000 in
set_option maxHeartbeats 4000000 in
theorem walkS (a0 a1 : Option Addr) (l0 l1 c0 c1 : Nat) (f : Int) (s0 : Nat → ByteArray) (z1 : Nat → Int) (w : World) (h0 : Strs w a0 l0 s0) (h1 : Nums w a1 l1 z1) (ht : Tab w) :
    Calls Tryd.prog 4 #[.slice a0 l0 c0, .slice a1 l1 c1, .int .i64 f] w fun e w' => e = .returned (.bool true) ∧ Below w.heap.size w w' := by
  go_enter Tryd.func4, Tryd.ntmps4
  go_wp2_with fail
  refine (bytesS_any a0 a1 l0 l1 c0 c1 f s0 w h0 h1.len_le).mono ?_
  rintro e w' ⟨⟨x, rfl, hx⟩, rfl⟩
  cases x with
  | false =>
    go_wp2_with fail
    go_ret
    exact ⟨rfl, Below.refl _ _⟩
  | true =>
  obtain ⟨b0, b1⟩ := hx rfl
  clear hx
  by_cases d0 : (65536 : Int) < l0
  · go_wp2_with fail
    go_ret
    exact ⟨rfl, Below.refl _ _⟩
  by_cases d1 : (65536 : Int) < l1
  · go_wp2_with fail
    go_ret
    exact ⟨rfl, Below.refl _ _⟩
  by_cases d2 : (1048576 : Int) < 16 * (l0 : Int) + 8 * (l1 : Int)
  · go_wp2_with fail
    go_ret
    exact ⟨rfl, Below.refl _ _⟩
  go_wp2_with fail
  go_loop [7, 8] (fun t i => TRel l0 t i) (fun _ i => l0 - (intOf i).toNat)
  case atStart => exact ⟨_, 0, rfl, Nat.zero_le _, rfl⟩
  case round =>
    obtain ⟨x, k, rfl, hk, rfl⟩ := hrel
    by_cases hlt : k < l0
    · obtain ⟨b, o, hix, hcx, _⟩ := h0.idx hlt c0
      go_wp2
      all_goals first
        | (go_ret; exact ⟨rfl, Below.refl _ _⟩)
        | (go_round
           case rel => exact ⟨_, k + 1, rfl, by omega, by go_num⟩
           case measure => simp [intOf]; omega)
    · by_cases hl : ((l1 : Int) != (l0 : Int)) = true
      · go_wp2_with fail
        go_ret
        exact ⟨rfl, Below.refl _ _⟩
      have hl2 : l1 = l0 := by
        have e : (l1 : Int) = (l0 : Int) := by simpa using hl
        omega
      subst hl2
      clear hl
      by_cases hf0 : f < 0
      · go_wp2_with fail
        go_ret
        exact ⟨rfl, Below.refl _ _⟩
      by_cases hf1 : (l1 : Int) < f
      · go_wp2_with fail
        go_ret
        exact ⟨rfl, Below.refl _ _⟩
      obtain ⟨fn, rfl⟩ : ∃ fn : Nat, f = fn := ⟨f.toNat, by omega⟩
      go_wp2_with fail
      go_loop [10] (fun i => SRel l1 i) (fun i => l1 - (intOf i).toNat)
      case atStart => exact ⟨0, Nat.zero_le _, rfl⟩
      case round =>
        obtain ⟨j, hj, rfl⟩ := hrel
        by_cases hlt2 : j < l1
        · obtain ⟨b, o, hix, hcx, _⟩ := h1.idx hlt2 c1
          go_wp2
          all_goals first
            | (go_ret; exact ⟨rfl, Below.refl _ _⟩)
            | (go_round
               case rel => exact ⟨j + 1, by omega, by go_num⟩
               case measure => simp [intOf]; omega)
        · clear hk
          go_wp2_with (go_at_call 6; refine (noStep_any _).mono ?_; rintro e w' ⟨rfl, rfl⟩)
          go_loopw [11, 12] (fun t i wr => ChRel w l1 s0 z1 t i wr) (fun _ i _ => l1 - (intOf i).toNat)
          case atStart => exact chrel_start _ _ _ _
          case round =>
            obtain ⟨k, hk, rfl, rfl, C, hsz, Bw⟩ := hrel
            by_cases hlt3 : k < l1
            · obtain ⟨b, o, hix, hcx, hb⟩ := h0.idx (k := k) (by omega) c0
              obtain ⟨b', o', hix', hcx', hb'⟩ := h1.idx (k := k) (by omega) c1
              have hc2 : wr.cell? ⟨b, o, none⟩ = some (.string (s0 k)) := (Bw.cell (p := ⟨b, o, none⟩) hb).trans hcx
              have hc2' : wr.cell? ⟨b', o', none⟩ = some (.int .i64 (z1 k)) := (Bw.cell (p := ⟨b', o', none⟩) hb').trans hcx'
              have C2 := C.snoc hsz
              obtain ⟨la, hla⟩ : ∃ la, lastOf w.heap.size k = la := ⟨_, rfl⟩
              rw [hla] at C2 ⊢
              have HS : Hid (wr.heap.size = w.heap.size + k) := hsz
              clear hcx hcx' C hla h0 h1 hsz
              go_wp2_with fail
              go_region_held (fun w' => w'.cell? ⟨b, o, none⟩ = some (.string (s0 k)) ∧ w'.cell? ⟨b', o', none⟩ = some (.int .i64 (z1 k))) (go_keep) (first | (go_at_call 7; refine (newStep_any _ _ _ _ _).mono ?_; rintro e w' ⟨rfl, rfl⟩))
              go_wp2_with fail
              go_roundw
              case rel => exact ⟨k + 1, by omega, by rw [HS.out]; rfl, by go_num, ⟨C2.up, C2.name, C2.index, C2.depth, C2.lt⟩, by simp [HS.out]; omega, (Bw.alloc Bw.size _).drew⟩
              case measure => simp [intOf]; omega
            · obtain rfl : l1 = k := by omega
              have T := ht.below Bw
              have g0 := h0.below Bw
              have g1 := h1.below Bw
              have hz := fun j hj => (h1.bd j hj).2
              have hs := h0.size
              obtain ⟨L, hL⟩ : ∃ L, l1 = fn + L := ⟨l1 - fn, by omega⟩
              have HL : Hid (l1 = fn + L) := hL
              have hLc : (l1 : Int) - (fn : Int) = (L : Int) := by omega
              have hLn : Hid (fn ≤ l1 ∧ L ≤ l1) := ⟨by omega, by omega⟩
              clear h0 h1 hL hsz
              go_wp2_with fail
              refine (newPath_any _ _ _).mono ?_
              rintro e w1 ⟨rfl, hb1⟩
              have C1 := C.below hb1
              have T1 := T.below hb1
              have B1 := Bw.trans (hb1.mono Bw.size)
              clear T Bw
              go_wp2_with fail
              refine (steps_int w.heap.size l1 0 l1 _ rfl (by omega) (by omega) s0 z1 hs hz w1 C1 T1).mono ?_
              rintro e w2 ⟨af, rfl, Sf, nf, hb2⟩
              have C2 := C1.below hb2
              have T2 := T1.below hb2
              have B2 := B1.trans (hb2.mono B1.size)
              replace g0 := (g0.below hb1).below hb2
              replace g1 := (g1.below hb1).below hb2
              clear C C1 T1 B1 hb1 hb2 nf
              go_wp2_with fail
              refine (newPath_any _ _ _).mono ?_
              rintro e w3 ⟨rfl, hb1⟩
              have C3 := C2.below hb1
              have T3 := T2.below hb1
              have B3 := B2.trans (hb1.mono B2.size)
              clear T2 B2
              go_wp2_with fail
              refine (steps_int w.heap.size l1 fn L _ rfl HL.out (by omega) s0 z1 hs hz w3 C3 T3).mono ?_
              rintro e w4 ⟨ap, rfl, Sp, np, hb2⟩
              have B4 := B3.trans (hb2.mono B3.size)
              replace g0 := (g0.below hb1).below hb2
              replace g1 := (g1.below hb1).below hb2
              replace Sf := (Sf.below hb1).below hb2
              have NP : Hid (ap.isNone = decide (L = 0)) := np
              clear C2 C3 T3 B3 hb1 hb2 np
              go_wp2_with fail
              obtain ⟨wo, rfl⟩ : ∃ wo : World, wo = wr := ⟨_, rfl⟩
              go_loopw [15] (fun i wr => ARel w4 l1 i wr) (fun i _ => l1 - (intOf i).toNat)
              case atStart => exact ⟨0, 0, Nat.zero_le _, rfl, rfl⟩
              case round =>
                obtain ⟨p, m, hp, rfl, hwr⟩ := hrel
                have HW : Hid (wr = w4.drewN m) := hwr
                by_cases hlt4 : p < l1
                · obtain ⟨b, o, hix, hcx, _⟩ := g1.idx hlt4 c1
                  obtain ⟨bf, of, hixf, hcxf, _⟩ := Sf.idx hlt4 l1
                  obtain ⟨bn, on, hixn, hcxn, _⟩ := g0.idx hlt4 c0
                  have e1 : wr.cell? ⟨b, o, none⟩ = some (.int .i64 (z1 p)) := by rw [hwr]; exact hcx
                  have e3 : wr.cell? ⟨bn, on, none⟩ = some (.string (s0 p)) := by rw [hwr]; exact hcxn
                  by_cases hneg : z1 p < 0
                  · have e2 : wr.cell? ⟨bf, of, none⟩ = some (.string (s0 p)) := by
                      rw [hwr]
                      refine hcxf.trans ?_
                      show some (Value.string (txt (s0 (0 + p)) (z1 (0 + p)))) = _
                      rw [Nat.zero_add, txt, if_pos hneg]
                    clear hcx hcxf hcxn hwr g0 g1 Sf Sp
                    go_wp2_with fail
                    go_quiet (fail)
                    go_wp2_with fail
                    go_roundw
                    case rel => exact ⟨p + 1, m + nq, by omega, by go_num, by rw [HW.out, World.drewN_drewN]⟩
                    case measure => simp [intOf]; omega
                  · have hd : decide (z1 p < 0) = false := by simpa using hneg
                    clear hcx hcxf hcxn hwr g0 g1 Sf Sp
                    go_wp2_with fail
                    go_quiet (fail)
                    go_wp2_with fail
                    go_roundw
                    case rel => exact ⟨p + 1, m + nq, by omega, by go_num, by rw [HW.out, World.drewN_drewN]⟩
                    case measure => simp [intOf]; omega
                · have Bv : Below w.heap.size w wr := by rw [hwr]; exact below_drewN B4 _
                  have Sf2 : Strs wr af l1 (fun j => txt (s0 (0 + j)) (z1 (0 + j))) := by rw [hwr]; exact ⟨Sf.size, Sf.cells, Sf.len_le⟩
                  have Sp2 : Strs wr ap L (fun j => txt (s0 (fn + j)) (z1 (fn + j))) := by rw [hwr]; exact ⟨Sp.size, Sp.cells, Sp.len_le⟩
                  clear hwr g0 g1 Sf Sp B4
                  by_cases hfe : fn = l1
                  · have hfe2 : ((fn : Int) == (l1 : Int)) = true := by simp [hfe]
                    have hL0 : L = 0 := by have := HL.out; omega
                    have q22 : ∀ w, (binOp .eql 22 (.slice ap L L) (.slice none 0 0)).run Tryd.prog w = .ok (.bool true) w := fun w => by rw [eql_nil_slice, NP.out, hL0]; rfl
                    clear hfe hL0
                    go_wp2_with fail
                    go_ret
                    exact ⟨rfl, Bv⟩
                  · have hfe2 : ((fn : Int) == (l1 : Int)) = false := by simp; omega
                    clear hfe
                    go_wp2_with fail
                    obtain ⟨wv, rfl⟩ : ∃ wv : World, wv = wr := ⟨_, rfl⟩
                    go_loopw [16] (fun i wr => ARel wv L i wr) (fun i _ => L - (intOf i).toNat)
                    case atStart => exact ⟨0, 0, Nat.zero_le _, rfl, rfl⟩
                    case round =>
                      obtain ⟨q, m2, hq, rfl, hwr⟩ := hrel
                      have HW2 : Hid (wr = wv.drewN m2) := hwr
                      by_cases hlt5 : q < L
                      · have hql : fn + q < l1 := by have := HL.out; omega
                        obtain ⟨bf, of, hixf, hcxf, _⟩ := Sf2.idx hql l1
                        obtain ⟨bp, op, hixp, hcxp, _⟩ := Sp2.idx hlt5 L
                        have e1 : wr.cell? ⟨bp, op, none⟩ = some (.string (txt (s0 (fn + q)) (z1 (fn + q)))) := by rw [hwr]; exact hcxp
                        have e2 : wr.cell? ⟨bf, of, none⟩ = some (.string (txt (s0 (fn + q)) (z1 (fn + q)))) := by
                          rw [hwr]
                          refine hcxf.trans ?_
                          show some (Value.string (txt (s0 (0 + (fn + q))) (z1 (0 + (fn + q))))) = _
                          rw [Nat.zero_add]
                        have hcast : ((fn + q : Nat) : Int) = (fn : Int) + (q : Int) := by omega
                        rw [hcast] at hixf
                        have hwrap : IntKind.i64.wrap ((fn : Int) + (q : Int)) = (fn : Int) + (q : Int) := by rw [IntKind.wrap_i64]; omega
                        clear hcxf hcxp hwr Sf2 Sp2 hcast
                        go_wp2_with fail
                        go_quiet (fail)
                        go_wp2_with fail
                        go_roundw
                        case rel => exact ⟨q + 1, m2 + nq, by omega, by go_num, by rw [HW2.out, World.drewN_drewN]⟩
                        case measure => simp [intOf]; omega
                      · clear hwr
                        go_wp2_with fail
                        go_ret
                        exact ⟨rfl, by rw [HW2.out]; exact below_drewN Bv _⟩


end Go.Proofs.Qxb6627489aDoor
