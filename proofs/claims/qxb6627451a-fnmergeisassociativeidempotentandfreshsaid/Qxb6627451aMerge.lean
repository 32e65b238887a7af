import Derived.Test.Qxb6627451aCopy
namespace Go.Proofs.Qxb6627451a
open Go.RowKit Go.Maps

theorem own_val_wf {w : World} {b n : Nat} {D : DataW Unit} (h : w.ownsMap Try.prog 9 (plainElem Try.prog 35) b n D) {s : ByteArray} (hs : s.size ≤ maxLen) : (Lit.int .u64 (val D (ky s))).wf = true := by
  obtain ⟨c, _, hat, hw⟩ := h.lookup_int law9 Try.underlying27 Try.underlying35 (zero35 w) (key_ok hs)
  rw [val_of hat]; exact hw
theorem Clk.val_wf {w : World} {r : Option Nat} {n : Nat} {D : DataW Unit} (h : Clk w r n D) {s : ByteArray} (hs : s.size ≤ maxLen) : (Lit.int .u64 (val D (ky s))).wf = true := by
  rcases h with ⟨_, rfl⟩ | ⟨b, _, h⟩
  · rw [val_of_not_has rfl]; decide
  · exact own_val_wf h hs
theorem u64_nonneg {c : Int} (h : (Lit.int .u64 c).wf = true) : 0 ≤ c := by
  simp [Lit.wf] at h
  have e : IntKind.u64.min = 0 := by decide
  have := h.1
  omega

/-- What a merge holds, key by key. -/
structure Merged (Dc Dd D : DataW Unit) : Prop where
  has : ∀ x, Maps.has D x = (Maps.has Dc x || Maps.has Dd x)
  val : ∀ s : ByteArray, s.size ≤ maxLen → val D (ky s) = max (val Dc (ky s)) (val Dd (ky s))

/-- What it holds while the range over d is under way. -/
structure Merging (Dc Dd : DataW Unit) (left : Lit → Bool) (D : DataW Unit) : Prop where
  has : ∀ x, Maps.has D x = (Maps.has Dc x || (Maps.has Dd x && !left x))
  val : ∀ s : ByteArray, s.size ≤ maxLen → Go.Proofs.Qxb6627451a.val D (ky s) = if Maps.has Dd (ky s) && !left (ky s) then max (Go.Proofs.Qxb6627451a.val Dc (ky s)) (Go.Proofs.Qxb6627451a.val Dd (ky s)) else Go.Proofs.Qxb6627451a.val Dc (ky s)

theorem merging_start (Dc Dd : DataW Unit) : Merging Dc Dd (Maps.has Dd) Dc := ⟨fun x => by cases Maps.has Dd x <;> simp, fun s _ => by simp⟩
theorem merging_step {Dc Dd D : DataW Unit} {left : Lit → Bool} (h : Merging Dc Dd left D) (hm : IsMap D) {s : ByteArray} (hs : s.size ≤ maxLen) {c : Int} (hat : ∀ zd, Dd.atKey (ky s) zd = .lit (.int .u64 c)) (hl : left (ky s) = true) {v : Int}
    (hv : v = max (val D (ky s)) c) : Merging Dc Dd (fun z => left z && !z.sameKey (ky s)) (D.put (ky s) (.lit (.int .u64 v))) := by
  have hh : Maps.has Dd (ky s) = true := has_true_of_atKey hat
  have hc : val Dd (ky s) = c := val_of (hat _)
  have h0 : val D (ky s) = val Dc (ky s) := by rw [h.val s hs, hl]; simp
  refine ⟨fun x => ?_, fun t ht => ?_⟩
  · by_cases e : x = ky s
    · subst e
      rw [has_put_same hm (ky_key _), hh, WideAt.sameKey_self (ky_key _)]; simp
    · rw [has_put_other e, h.has, sameKey_ne e]; simp
  · by_cases e : ky t = ky s
    · rw [e, val_put_same hm (ky_key _), hh, WideAt.sameKey_self (ky_key _), hv, h0, hc]; simp
    · rw [val_put_other e, h.val t ht, sameKey_ne e]; simp
theorem merging_end {Dc Dd D : DataW Unit} {left : Lit → Bool} (h : Merging Dc Dd left D) (hl : ∀ x, left x = false) (hw : ∀ s : ByteArray, s.size ≤ maxLen → 0 ≤ val Dc (ky s)) : Merged Dc Dd D := by
  refine ⟨fun x => by rw [h.has, hl]; simp, fun s hs => ?_⟩
  rw [h.val s hs, hl]
  cases hd : Maps.has Dd (ky s)
  · have := hw s hs
    rw [val_of_not_has hd]; simp; omega
  · simp

def MRel (w : World) (b r n m : Nat) (Dc Dd : DataW Unit) (wr : World) : Prop :=
  ∃ (left : Lit → Bool) (cnt : Nat) (D : DataW Unit), wr.ranges Try.prog 9 (plainElem Try.prog 35) b r m Dd left cnt ∧ cnt ≤ Maps.size Dd ∧
    wr.ownsMap Try.prog 9 (plainElem Try.prog 35) w.heap.size (n + (Maps.size Dd - cnt)) D ∧ Merging Dc Dd left D ∧ Below w.heap.size w wr

/-- What Merge hands back. -/
def MPost (w : World) (n m : Nat) (Dc Dd : DataW Unit) (e : Ending) (w' : World) : Prop :=
  e = .returned (.map (some w.heap.size)) ∧ ∃ D, w'.ownsMap Try.prog 9 (plainElem Try.prog 35) w.heap.size (n + m) D ∧ Merged Dc Dd D ∧ Below w.heap.size w w'

set_option maxHeartbeats 1000000 in
theorem merge_some (rc : Option Nat) (b n m : Nat) (Dc Dd : DataW Unit) (w : World) (hc : Clk w rc n Dc) (hd : w.ownsMap Try.prog 9 (plainElem Try.prog 35) b m Dd) (hn : n ≤ 1048576 * 16) (hm : m ≤ 1048576 * 16) :
    Calls Try.prog 9 #[.map rc, .map (some b)] w fun e w' => MPost w n m Dc Dd e w' := by
  have hmm := run_makeHint
  have hlc := hc.len 3
  have hld := hd.len Try.underlying27 3
  have hcl := hc.lt
  have hdl := hd.lt
  have hds := hd.size_le
  have hcs := hc.size_le
  have hwf := fun (s : ByteArray) (h : s.size ≤ maxLen) => u64_nonneg (hc.val_wf h)
  rcases Nat.lt_or_ge (Maps.size Dc) (Maps.size Dd) with hcmp | hcmp
  all_goals
    go_enter Try.func9, Try.ntmps9
    go_wp2_with fail
    refine (copy_any rc w.heap.size n Dc (w.alloc (.map #[] 0)) (fun e => by have := hcl _ e; omega) (hc.kept (World.grownBy_alloc w _ none) (by simp)) (World.ownsMap_made _ _ _ _) (by omega)).mono ?_
    rintro e w1 ⟨rfl, hown1, hg1⟩
    have hb1 : Below w.heap.size w w1 := ((Below.refl _ _).alloc (Nat.le_refl _) _).grown hg1 (by simp) (fun j hj => by cases hj; exact Nat.le_refl _)
    have hd1 : w1.ownsMap Try.prog 9 (plainElem Try.prog 35) b m Dd := hd.kept (grown_of_below hb1) (by simp)
    have hsz1 : w.heap.size < w1.heap.size := hown1.lt
    have hne1 : w1.heap.size ≠ w.heap.size := by omega
    clear hg1 hlc hld hmm hcl hc
    go_wp2_with (first
      | (at_range; refine wpList_range_own _ rfl _ 27 rfl 9 35 law9 Try.underlying27 _ b m _ rfl hd1 ?_; intro w0 hrg0 hg0 hs0)
      | fail)
    go_frame
    go_loopw [6] (fun _ wr => MRel w b w1.heap.size n m Dc Dd wr) (fun _ wr => wr.rangeLeft b w1.heap.size)
    case atStart =>
      exact ⟨_, _, Dc, hrg0, Nat.le_refl _, (hown1.kept hg0 (by simp)).mono (by omega), merging_start _ _, hb1.grown hg0 (by omega) (fun j hj => by cases hj)⟩
    case round =>
      obtain ⟨left, cnt, D, hrg, hcs, hout, hM, hnx⟩ := hrel
      go_wp2_with (first
        | (at_next; refine next_su _ rfl _ rfl b w1.heap.size m _ _ _ rfl hrg ?_ ?_)
        | fail)
      · intro hc0 hl0
        go_wp2
        go_ret
        subst hc0
        exact ⟨rfl, D, hout.mono (by omega), merging_end hM hl0 hwf, hnx⟩
      · intro x c w2 cnt1 hwx hwc hlx hat hrg1 hlt hg2 hs1 hen
        have hout1 := hout.kept hg2 (by simp; omega)
        have hlook := Clk.look (r := some w.heap.size) (.inr ⟨_, rfl, hout1⟩) hwx
        have hvw := own_val_wf hout1 hwx
        obtain ⟨v, hv, hvw2⟩ : ∃ v, (if val D (ky x) < c then c else val D (ky x)) = v ∧ (Lit.int .u64 v).wf = true := ⟨_, rfl, by split <;> assumption⟩
        obtain ⟨w3, hrun, hout3, hg3⟩ := hout1.update law9 Try.underlying27 (by unfold maxLen; omega) (key_ok hwx) (plainElem_int Try.underlying35 hvw2)
        have hrg3 := hrg1.kept hg3 (by simp; omega) (by simp; omega)
        have hM3 := merging_step hM hout.isMap hwx hat hlx (v := v) (by rw [← hv]; split <;> omega)
        have hb3 : Below w.heap.size w w3 := (hnx.grown hg2 hnx.size (fun j hj => by cases hj; omega)).grown hg3 (by have := hnx.size; omega) (fun j hj => by cases hj; exact Nat.le_refl _)
        clear hvw hvw2 hat hlx hout1 hg2 hg3 hM
        go_wp2
        go_roundw
        case rel => exact ⟨_, cnt1, _, hrg3, by omega, hout3.mono (by omega), hM3, hb3⟩
        case measure => rw [hrg3.left_eq, hrg.left_eq]; exact hlt

set_option maxHeartbeats 1000000 in
theorem merge_nil (rc : Option Nat) (n m : Nat) (Dc : DataW Unit) (w : World) (hc : Clk w rc n Dc) (hn : n ≤ 1048576 * 16) :
    Calls Try.prog 9 #[.map rc, .map none] w fun e w' => MPost w n m Dc (.map []) e w' := by
  have hmm := run_makeHint
  have hlc := hc.len 3
  have hld := Maps.len_nil (w := w) Try.underlying27 3
  have hcl := hc.lt
  have hcs := hc.size_le
  have hwf := fun (s : ByteArray) (h : s.size ≤ maxLen) => u64_nonneg (hc.val_wf h)
  go_enter Try.func9, Try.ntmps9
  go_wp2_with fail
  refine (copy_any rc w.heap.size n Dc (w.alloc (.map #[] 0)) (fun e => by have := hcl _ e; omega) (hc.kept (World.grownBy_alloc w _ none) (by simp)) (World.ownsMap_made _ _ _ _) (by omega)).mono ?_
  rintro e w1 ⟨rfl, hown1, hg1⟩
  have hb1 : Below w.heap.size w w1 := ((Below.refl _ _).alloc (Nat.le_refl _) _).grown hg1 (by simp) (fun j hj => by cases hj; exact Nat.le_refl _)
  have hsz1 : w.heap.size < w1.heap.size := hown1.lt
  have hrg := run_range_nilMap (P := Try.prog) w1 27 9 35 Try.underlying27
  have hnx : ∀ ty, (Instr.next (.pointer (some ⟨w1.heap.size, 0, none⟩)) false ty).run Try.prog (w1.alloc (.mapIter none 0 #[] 0)) = _ := fun ty => run_next_nilMap _ ty 0 0 #[]
  clear hg1 hlc hld hmm hcl hc
  go_wp2
  refine wp_loop_rounds 1 ?_
  rw [rounds_succ]
  go_wp2
  go_ret
  exact ⟨rfl, Dc, (hown1.alloc _).mono (by omega), merging_end (merging_start Dc (.map [])) (fun x => rfl) hwf, hb1.alloc (by omega) _⟩

theorem merge_any (rc rd : Option Nat) (n m : Nat) (Dc Dd : DataW Unit) (w : World) (hc : Clk w rc n Dc) (hd : Clk w rd m Dd) (hn : n ≤ 1048576 * 16) (hm : m ≤ 1048576 * 16) :
    Calls Try.prog 9 #[.map rc, .map rd] w fun e w' => MPost w n m Dc Dd e w' := by
  rcases hd with ⟨rfl, rfl⟩ | ⟨b, rfl, hd⟩
  · exact merge_nil rc n m Dc w hc hn
  · exact merge_some rc b n m Dc Dd w hc hd hn hm

end Go.Proofs.Qxb6627451a
