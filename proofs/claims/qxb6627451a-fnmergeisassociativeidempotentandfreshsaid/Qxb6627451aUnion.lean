import Derived.Test.Qxb6627451aLeaf
namespace Go.Proofs.Qxb6627451a
open Go.RowKit Go.Maps

/-- A loop of zzUnionLen: the set holds f's keys and the first k of ss. -/
def VRel (w : World) (f : Lit → Bool) (ss : Nat → ByteArray) (m N : Nat) (i : Value) (wr : World) : Prop :=
  ∃ (k : Nat) (D : DataW Unit), k ≤ N ∧ i = .int .i64 k ∧ wr.ownsMap Try.prog 9 (plainElem Try.prog 4) w.heap.size (m + k) D ∧ (∀ x, Maps.has D x = (f x || among ss k x)) ∧ Below w.heap.size w wr

theorem vrel_start {w wr : World} {f g : Lit → Bool} {ss : Nat → ByteArray} {m N : Nat} {D : DataW Unit} (h : wr.ownsMap Try.prog 9 (plainElem Try.prog 4) w.heap.size m D) (hh : ∀ x, Maps.has D x = f x) (hb : Below w.heap.size w wr) (hfg : ∀ x, f x = g x) :
    VRel w g ss m N (.int .i64 0) wr := ⟨0, D, Nat.zero_le _, rfl, h, fun x => by rw [hh, hfg]; simp [among], hb⟩

theorem vrel_step {f : Lit → Bool} {ss : Nat → ByteArray} {k : Nat} {D : DataW Unit} (hm : IsMap D) (hh : ∀ x, Maps.has D x = (f x || among ss k x)) (d : DataW Unit) :
    ∀ x, Maps.has (D.put (ky (ss k)) d) x = (f x || among ss (k + 1) x) := by
  intro x
  show _ = (f x || (among ss k x || (ky (ss k)).sameKey x))
  by_cases e : x = ky (ss k)
  · subst e
    rw [has_put_same hm (ky_key _), WideAt.sameKey_self (ky_key _)]; simp
  · rw [has_put_other e, hh, sameKey_ne (fun h => e h.symm)]; simp

/-- What zzUnionLen answers: the size of a set that holds just the keys named. -/
def UPost (f : Lit → Bool) (e : Ending) : Prop := ∃ U : DataW Unit, Canon U ∧ (∀ x, Maps.has U x = f x) ∧ e = .returned (.int .i64 (Maps.size U : Nat))

set_option maxHeartbeats 2000000 in
theorem union_any (a0 a1 a2 a3 a4 a5 : Option Addr) (l0 l1 l2 l3 l4 l5 c0 c1 c2 c3 c4 c5 : Nat) (s0 s2 s4 : Nat → ByteArray) (w : World) (h0 : Strs w a0 l0 s0) (h2 : Strs w a2 l2 s2) (h4 : Strs w a4 l4 s4) (b0 : l0 ≤ 1048576) (b2 : l2 ≤ 1048576) (b4 : l4 ≤ 1048576) :
    Calls Try.prog 8 #[.slice a0 l0 c0, .slice a1 l1 c1, .slice a2 l2 c2, .slice a3 l3 c3, .slice a4 l4 c4, .slice a5 l5 c5] w fun e w' =>
      UPost (fun x => among s0 (min l0 l1) x || among s2 (min l2 l3) x || among s4 (min l4 l5) x) e ∧ Below w.heap.size w w' := by
  have hmm := @run_makeMap Try.prog
  obtain ⟨N, hN, hN0⟩ : ∃ N, Hid (N = min l0 l1) ∧ N ≤ l0 := ⟨min l0 l1, rfl, by omega⟩
  obtain ⟨M, hM, hM0⟩ : ∃ M, Hid (M = min l2 l3) ∧ M ≤ l2 := ⟨min l2 l3, rfl, by omega⟩
  obtain ⟨L, hL, hL0⟩ : ∃ L, Hid (L = min l4 l5) ∧ L ≤ l4 := ⟨min l4 l5, rfl, by omega⟩
  rw [← hN.out, ← hM.out, ← hL.out]
  go_enter Try.func8, Try.ntmps8
  go_wp2_with (go_at_call 13; refine (pairs_any _ _ _ _ _ _ _).mono ?_; rw [← hN.out]; rintro e w' ⟨rfl, rfl⟩)
  go_loopw [15] (fun i wr => VRel w (fun _ => false) s0 0 N i wr) (fun i _ => N - (intOf i).toNat)
  case atStart => exact vrel_start (f := fun _ => false) (World.ownsMap_made _ _ _ _) (fun _ => rfl) ((Below.refl _ _).alloc (Nat.le_refl _) _) (fun _ => rfl)
  case round =>
    obtain ⟨k, D, hk, rfl, hown, hhas, hnx⟩ := hrel
    by_cases hlt : k < N
    · obtain ⟨b, o, hix, hcx, hb⟩ := h0.idx (k := k) (by omega) c0
      have hc2 : wr.cell? ⟨b, o, none⟩ = some (.string (s0 k)) := (hnx.cell (p := ⟨b, o, none⟩) hb).trans hcx
      obtain ⟨w1, hrun, hown1, hgrow1⟩ := hown.update law9 Try.underlying38 (by unfold maxLen; omega) (key_ok (h0.size k (by omega))) (plainElem_bool Try.underlying4 true)
      have R1 := vrel_step hown.isMap hhas (.lit (.bool true))
      have R2 : Below w.heap.size w w1 := hnx.grown hgrow1 hnx.size (fun j hj => by cases hj; exact Nat.le_refl _)
      clear hgrow1 hown hcx h0 h2 h4 hhas
      go_wp2
      go_roundw
      case rel => exact ⟨k + 1, _, by omega, by go_num, hown1, R1, R2⟩
      case measure => simp [intOf]; omega
    · have hkN : k = N := by omega
      subst hkN
      clear h0
      obtain ⟨wo, rfl⟩ : ∃ wo : World, wo = wr := ⟨_, rfl⟩
      go_wp2_with (go_at_call 13; refine (pairs_any _ _ _ _ _ _ _).mono ?_; rw [← hM.out]; rintro e w' ⟨rfl, rfl⟩)
      go_loopw [16] (fun i wr => VRel w (fun x => among s0 k x) s2 k M i wr) (fun i _ => M - (intOf i).toNat)
      case atStart => exact vrel_start (hown.mono (by omega)) hhas hnx (fun x => by simp)
      case round =>
        clear hown hhas hnx
        obtain ⟨j, D, hj, rfl, hown, hhas, hnx⟩ := hrel
        by_cases hlt : j < M
        · obtain ⟨b, o, hix, hcx, hb⟩ := h2.idx (k := j) (by omega) c2
          have hc2 : wr.cell? ⟨b, o, none⟩ = some (.string (s2 j)) := (hnx.cell (p := ⟨b, o, none⟩) hb).trans hcx
          obtain ⟨w1, hrun, hown1, hgrow1⟩ := hown.update law9 Try.underlying38 (by unfold maxLen; omega) (key_ok (h2.size j (by omega))) (plainElem_bool Try.underlying4 true)
          have R1 := vrel_step hown.isMap hhas (.lit (.bool true))
          have R2 : Below w.heap.size w w1 := hnx.grown hgrow1 hnx.size (fun j hj => by cases hj; exact Nat.le_refl _)
          clear hgrow1 hown hcx h2 h4 hhas
          go_wp2
          go_roundw
          case rel => exact ⟨j + 1, _, by omega, by go_num, hown1, R1, R2⟩
          case measure => simp [intOf]; omega
        · have hjM : j = M := by omega
          subst hjM
          clear h2
          obtain ⟨wp, rfl⟩ : ∃ wp : World, wp = wr := ⟨_, rfl⟩
          go_wp2_with (go_at_call 13; refine (pairs_any _ _ _ _ _ _ _).mono ?_; rw [← hL.out]; rintro e w' ⟨rfl, rfl⟩)
          go_loopw [17] (fun i wr => VRel w (fun x => among s0 k x || among s2 j x) s4 (k + j) L i wr) (fun i _ => L - (intOf i).toNat)
          case atStart => exact vrel_start hown hhas hnx (fun x => rfl)
          case round =>
            clear hown hhas hnx
            obtain ⟨i, D, hi, rfl, hown, hhas, hnx⟩ := hrel
            by_cases hlt : i < L
            · obtain ⟨b, o, hix, hcx, hb⟩ := h4.idx (k := i) (by omega) c4
              have hc2 : wr.cell? ⟨b, o, none⟩ = some (.string (s4 i)) := (hnx.cell (p := ⟨b, o, none⟩) hb).trans hcx
              obtain ⟨w1, hrun, hown1, hgrow1⟩ := hown.update law9 Try.underlying38 (by unfold maxLen; omega) (key_ok (h4.size i (by omega))) (plainElem_bool Try.underlying4 true)
              have R1 := vrel_step hown.isMap hhas (.lit (.bool true))
              have R2 : Below w.heap.size w w1 := hnx.grown hgrow1 hnx.size (fun j hj => by cases hj; exact Nat.le_refl _)
              clear hgrow1 hown hcx h4 hhas
              go_wp2
              go_roundw
              case rel => exact ⟨i + 1, _, by omega, by go_num, hown1, R1, R2⟩
              case measure => simp [intOf]; omega
            · have hiL : i = L := by omega
              subst hiL
              clear h4
              have hlen := hown.len Try.underlying38 3
              go_wp2
              go_ret
              exact ⟨⟨D, hown.canon law9, hhas, rfl⟩, hnx⟩

end Go.Proofs.Qxb6627451a
