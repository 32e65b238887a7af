import Derived.Test.Qxb6627489aDoorChain
import Derived.Test.Qxb6627489aDoorItoa
import Derived.Deep.RegionHeld
namespace Go.Proofs.Qxb6627489aDoor
open Go.RowKit

/-- The comparing loop: it only makes memory. -/
def MRel (w : World) (N : Nat) (i : Value) (wr : World) : Prop := ∃ k : Nat, k ≤ N ∧ i = .int .i64 k ∧ Below w.heap.size w wr

set_option maxRecDepth 100000 in
set_option maxHeartbeats 4000000 in
theorem walkM (a0 a1 : Option Addr) (l0 l1 c0 c1 : Nat) (f : Int) (s0 : Nat → ByteArray) (z1 : Nat → Int) (w : World) (h0 : Strs w a0 l0 s0) (h1 : Nums w a1 l1 z1) (ht : Tab w) :
    Calls Tryd.prog 3 #[.slice a0 l0 c0, .slice a1 l1 c1, .int .i64 f] w fun e w' => e = .returned (.bool true) ∧ Below w.heap.size w w' := by
  go_enter Tryd.func3, Tryd.ntmps3
  go_wp2_with fail
  refine (bytesM_any a0 a1 l0 l1 c0 c1 f s0 w h0 h1.len_le).mono ?_
  rintro e w' ⟨⟨x, rfl, hx⟩, rfl⟩
  cases x with
  | false =>
    go_wp2_with fail
    go_ret
    exact ⟨rfl, Below.refl _ _⟩
  | true =>
  obtain ⟨b0, b1⟩ := hx rfl
  clear hx
  by_cases d0 : (65536 : Int) < l0
  · go_wp2_with fail
    go_ret
    exact ⟨rfl, Below.refl _ _⟩
  by_cases d1 : (65536 : Int) < l1
  · go_wp2_with fail
    go_ret
    exact ⟨rfl, Below.refl _ _⟩
  by_cases d2 : (1048576 : Int) < 16 * (l0 : Int) + 8 * (l1 : Int)
  · go_wp2_with fail
    go_ret
    exact ⟨rfl, Below.refl _ _⟩
  go_wp2_with fail
  go_loop [7, 8] (fun t i => TRel l0 t i) (fun _ i => l0 - (intOf i).toNat)
  case atStart => exact ⟨_, 0, rfl, Nat.zero_le _, rfl⟩
  case round =>
    obtain ⟨x, k, rfl, hk, rfl⟩ := hrel
    by_cases hlt : k < l0
    · obtain ⟨b, o, hix, hcx, _⟩ := h0.idx hlt c0
      go_wp2
      all_goals first
        | (go_ret; exact ⟨rfl, Below.refl _ _⟩)
        | (go_round
           case rel => exact ⟨_, k + 1, rfl, by omega, by go_num⟩
           case measure => simp [intOf]; omega)
    · by_cases hl : ((l1 : Int) != (l0 : Int)) = true
      · go_wp2_with fail
        go_ret
        exact ⟨rfl, Below.refl _ _⟩
      have hl2 : l1 = l0 := by
        have e : (l1 : Int) = (l0 : Int) := by simpa using hl
        omega
      subst hl2
      clear hl
      by_cases hf0 : f < 0
      · go_wp2_with fail
        go_ret
        exact ⟨rfl, Below.refl _ _⟩
      by_cases hf1 : (l1 : Int) < f
      · go_wp2_with fail
        go_ret
        exact ⟨rfl, Below.refl _ _⟩
      obtain ⟨fn, rfl⟩ : ∃ fn : Nat, f = fn := ⟨f.toNat, by omega⟩
      go_wp2_with fail
      go_loop [10] (fun i => SRel l1 i) (fun i => l1 - (intOf i).toNat)
      case atStart => exact ⟨0, Nat.zero_le _, rfl⟩
      case round =>
        obtain ⟨j, hj, rfl⟩ := hrel
        by_cases hlt2 : j < l1
        · obtain ⟨b, o, hix, hcx, _⟩ := h1.idx hlt2 c1
          go_wp2
          all_goals first
            | (go_ret; exact ⟨rfl, Below.refl _ _⟩)
            | (go_round
               case rel => exact ⟨j + 1, by omega, by go_num⟩
               case measure => simp [intOf]; omega)
        · clear hk
          go_wp2_with (go_at_call 6; refine (noStep_any _).mono ?_; rintro e w' ⟨rfl, rfl⟩)
          go_loopw [11, 12] (fun t i wr => ChRel w l1 s0 z1 t i wr) (fun _ i _ => l1 - (intOf i).toNat)
          case atStart => exact chrel_start _ _ _ _
          case round =>
            obtain ⟨k, hk, rfl, rfl, C, hsz, Bw⟩ := hrel
            by_cases hlt3 : k < l1
            · obtain ⟨b, o, hix, hcx, hb⟩ := h0.idx (k := k) (by omega) c0
              obtain ⟨b', o', hix', hcx', hb'⟩ := h1.idx (k := k) (by omega) c1
              have hc2 : wr.cell? ⟨b, o, none⟩ = some (.string (s0 k)) := (Bw.cell (p := ⟨b, o, none⟩) hb).trans hcx
              have hc2' : wr.cell? ⟨b', o', none⟩ = some (.int .i64 (z1 k)) := (Bw.cell (p := ⟨b', o', none⟩) hb').trans hcx'
              have C2 := C.snoc hsz
              obtain ⟨la, hla⟩ : ∃ la, lastOf w.heap.size k = la := ⟨_, rfl⟩
              rw [hla] at C2 ⊢
              have HS : Hid (wr.heap.size = w.heap.size + k) := hsz
              clear hcx hcx' C hla h0 h1 hsz
              go_wp2_with fail
              go_region_held (fun w' => w'.cell? ⟨b, o, none⟩ = some (.string (s0 k)) ∧ w'.cell? ⟨b', o', none⟩ = some (.int .i64 (z1 k))) (go_keep) (first | (go_at_call 7; refine (newStep_any _ _ _ _ _).mono ?_; rintro e w' ⟨rfl, rfl⟩))
              go_wp2_with fail
              go_roundw
              case rel => exact ⟨k + 1, by omega, by rw [HS.out]; rfl, by go_num, ⟨C2.up, C2.name, C2.index, C2.depth, C2.lt⟩, by simp [HS.out]; omega, (Bw.alloc Bw.size _).drew⟩
              case measure => simp [intOf]; omega
            · obtain rfl : l1 = k := by omega
              have T := ht.below Bw
              have g0 := h0.below Bw
              have g1 := h1.below Bw
              have hz := fun j hj => (h1.bd j hj).2
              have hs := h0.size
              obtain ⟨L, hL⟩ : ∃ L, l1 = fn + L := ⟨l1 - fn, by omega⟩
              have HL : Hid (l1 = fn + L) := hL
              have hLc : (l1 : Int) - (fn : Int) = (L : Int) := by omega
              clear h0 h1 hL hsz
              go_wp2_with fail
              refine (newPath_any _ _ _).mono ?_
              rintro e w1 ⟨rfl, hb1⟩
              have C1 := C.below hb1
              have T1 := T.below hb1
              have B1 := Bw.trans (hb1.mono Bw.size)
              clear T Bw
              go_wp2_with fail
              refine (steps_int w.heap.size l1 fn L _ rfl HL.out (by omega) s0 z1 hs hz w1 C1 T1).mono ?_
              rintro e w4 ⟨ap, rfl, Sp, np, hb2⟩
              have B4 := B1.trans (hb2.mono B1.size)
              replace g0 := (g0.below hb1).below hb2
              replace g1 := (g1.below hb1).below hb2
              have NP : Hid (ap.isNone = decide (L = 0)) := np
              clear C C1 T1 B1 hb1 hb2 np
              by_cases hfe : fn = l1
              · have hfe2 : ((fn : Int) == (l1 : Int)) = true := by simp [hfe]
                have hL0 : L = 0 := by have := HL.out; omega
                have q22 : ∀ w, (binOp .eql 22 (.slice ap L L) (.slice none 0 0)).run Tryd.prog w = .ok (.bool true) w := fun w => by rw [eql_nil_slice, NP.out, hL0]; rfl
                clear hfe hL0
                go_wp2_with fail
                go_ret
                exact ⟨rfl, B4⟩
              · have hfe2 : ((fn : Int) == (l1 : Int)) = false := by simp; omega
                clear hfe
                go_wp2_with fail
                obtain ⟨wo, rfl⟩ : ∃ wo : World, wo = wr := ⟨_, rfl⟩
                go_loopw [14] (fun i wr => MRel w4 L i wr) (fun i _ => L - (intOf i).toNat)
                case atStart => exact ⟨0, Nat.zero_le _, rfl, Below.refl _ _⟩
                case round =>
                  obtain ⟨q, hq, rfl, Bv⟩ := hrel
                  by_cases hlt5 : q < L
                  · have hql : fn + q < l1 := by have := HL.out; omega
                    have k0 := g0.below Bv
                    have k1 := g1.below Bv
                    have kp := Sp.below Bv
                    have hcast : ((fn + q : Nat) : Int) = (fn : Int) + (q : Int) := by omega
                    obtain ⟨bn, on, hixn, hcxn, hbn⟩ := k0.idx hql c0
                    obtain ⟨bi, oi, hixi, hcxi, hbi⟩ := k1.idx hql c1
                    obtain ⟨bp, op, hixp, hcxp, hbp⟩ := kp.idx hlt5 L
                    rw [hcast] at hixn hixi
                    have hz2 := hz _ hql
                    have ep : wr.cell? ⟨bp, op, none⟩ = some (.string (txt (s0 (fn + q)) (z1 (fn + q)))) := hcxp
                    clear hcast hcxp g0 g1 Sp k0 k1 kp
                    by_cases hneg : z1 (fn + q) < 0
                    · rw [txt, if_pos hneg] at ep
                      go_wp2_with fail
                      go_roundw
                      case rel => exact ⟨q + 1, by omega, by go_num, Bv⟩
                      case measure => simp [intOf]; omega
                    · rw [txt, if_neg hneg] at ep
                      have hsz := itoa_size (z1 (fn + q)) (by omega) hz2
                      have HC := zzItoa_any (z1 (fn + q)) hneg hz2 wr
                      obtain ⟨s, hst⟩ : ∃ s : ByteArray, s = ⟨(Lib.itoa (z1 (fn + q))).toArray⟩ := ⟨_, rfl⟩
                      rw [← hst] at hsz HC ep
                      have q1 := add_open s (by omega)
                      have q2 := add_shut s (by omega)
                      clear hst
                      go_wp2_with fail
                      refine HC.mono ?_
                      rintro e w5 ⟨rfl, hb5⟩
                      have ep5 : w5.cell? ⟨bp, op, none⟩ = some (.string (({ data := #[91] } ++ s) ++ { data := #[93] })) := (hb5.cell (p := ⟨bp, op, none⟩) hbp).trans ep
                      have Bz := Bv.trans (hb5.mono Bv.size)
                      clear HC ep hb5 hcxn hcxi
                      go_wp2_with fail
                      go_roundw
                      case rel => exact ⟨q + 1, by omega, by go_num, Bz⟩
                      case measure => simp [intOf]; omega
                  · go_wp2_with fail
                    go_ret
                    exact ⟨rfl, B4.trans (Bv.mono B4.size)⟩


end Go.Proofs.Qxb6627489aDoor
