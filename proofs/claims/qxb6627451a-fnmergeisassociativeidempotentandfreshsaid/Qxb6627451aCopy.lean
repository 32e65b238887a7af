import Derived.Test.Qxb6627451aLeaf
namespace Go.Proofs.Qxb6627451a
open Go.RowKit Go.Maps

theorem key_inv {key : Value} {kl : Lit} (h : keyOf Try.prog 9 key = some kl) : ∃ s : ByteArray, key = .string s ∧ kl = ky s ∧ s.size ≤ maxLen := by
  cases key <;> simp [keyOf, Try.underlying9, mapKey] at h
  exact ⟨_, rfl, h.2.symm, h.1⟩

/-- A step of a range over a clock. -/
theorem next_su (w : World) {ops : Array Oper} {rest : List Oper} {o : Oper} {a : Act} {Q : Exit → Act → World → Prop} (hg : o.guard = none) (it : Operand) (hop : o.op = Op.next it false)
    (b r n : Nat) (D : DataW Unit) (left : Lit → Bool) (cnt : Nat) (hit : a.eval it = .pointer (some ⟨r, 0, none⟩)) (h : w.ranges Try.prog 9 (plainElem Try.prog 35) b r n D left cnt)
    (hDone : cnt = 0 → (∀ kl, left kl = false) → wpList Try.prog ops Q rest (a.put o.dst (.tuple #[.bool false])) w)
    (hMore : ∀ (s : ByteArray) (c : Int) (w' : World) (cnt' : Nat), s.size ≤ maxLen → (Lit.int .u64 c).wf = true → left (ky s) = true → (∀ zd, D.atKey (ky s) zd = .lit (.int .u64 c)) → w'.ranges Try.prog 9 (plainElem Try.prog 35) b r n D (fun z => left z && !z.sameKey (ky s)) cnt' → cnt' < cnt →
      w.grownBy w' (some r) → w'.heap.size = w.heap.size → (Instr.entry (.pointer (some ⟨r, 0, none⟩))).run Try.prog w' = .ok (.tuple #[.string s, .int .u64 c]) w' → wpList Try.prog ops Q rest (a.put o.dst (.tuple #[.bool true, .string s, .int .u64 c])) w') :
    wpList Try.prog ops Q (o :: rest) a w :=
  wpList_next_ranges w hg it hop 9 law9 (plainElem Try.prog 35) Value.string (Value.int .u64) (fun key kl hkey => by obtain ⟨s, rfl, _⟩ := key_inv hkey; exact ⟨s, rfl⟩) (fun v y hv => by obtain ⟨c, rfl, _⟩ := plainElem_int_inv Try.underlying35 hv; exact ⟨c, rfl⟩)
    b r n D left cnt hit h hDone (fun s c kl y w' cnt' hkey hlk hv hat hrg hlt hgr hsz hen => by
      obtain ⟨s', es, rfl, hs⟩ := key_inv hkey
      cases es
      obtain ⟨c', ec, rfl, hwc⟩ := plainElem_int_inv Try.underlying35 hv
      cases ec
      exact hMore s c w' cnt' hs hwc hlk hat hrg hlt hgr hsz hen)

/-- maps.Copy's loop: what has been laid into dst is just what is no longer to come. -/
def CRel (w : World) (b bd r n : Nat) (D : DataW Unit) (wr : World) : Prop :=
  ∃ (left : Lit → Bool) (cnt : Nat) (Dout : DataW Unit), wr.ranges Try.prog 9 (plainElem Try.prog 35) b r n D left cnt ∧ cnt ≤ Maps.size D ∧
    wr.ownsMap Try.prog 9 (plainElem Try.prog 35) bd (Maps.size D - cnt) Dout ∧ Agree Dout D left ∧ w.grownBy wr (some bd)

set_option maxHeartbeats 1000000 in
theorem copy_some (b bd n m : Nat) (D : DataW Unit) (w : World) (hne : b ≠ bd) (hown : w.ownsMap Try.prog 9 (plainElem Try.prog 35) b n D) (hdst : w.ownsMap (H := Unit) Try.prog 9 (plainElem Try.prog 35) bd m (.map [])) (hm : m = 0) (hn : n ≤ 1048576 * 64) :
    Calls Try.prog 17 #[.map (some bd), .map (some b)] w fun e w' => e = .returned (.tuple #[]) ∧ w'.ownsMap Try.prog 9 (plainElem Try.prog 35) bd (Maps.size D) D ∧ w.grownBy w' (some bd) := by
  subst hm
  have hbl := hown.lt
  have hdl := hdst.lt
  have hsl := hown.size_le
  go_enter Try.func17, Try.ntmps17
  go_wp2_with (first
    | (at_range; refine wpList_range_own _ rfl _ 27 rfl 9 35 law9 Try.underlying27 _ b n _ rfl hown ?_; intro w0 hrg0 hg0 hs0)
    | go_in)
  go_frame
  go_loopw [4] (fun _ wr => CRel w b bd w.heap.size n D wr) (fun _ wr => wr.rangeLeft b w.heap.size)
  case atStart =>
    exact ⟨_, _, .map [], hrg0, Nat.le_refl _, (hdst.kept hg0 (by simp)).mono (Nat.zero_le _), agree_start D, hg0.but _⟩
  case round =>
    obtain ⟨left, cnt, Dout, hrg, hcs, hout, hA, hgw⟩ := hrel
    go_wp2_with (first
      | (at_next; refine next_su _ rfl _ rfl b w.heap.size n _ _ _ rfl hrg ?_ ?_)
      | go_in)
    · intro hc0 hl0
      go_wp2
      go_end0
      subst hc0
      have e := agree_end hA hl0 (hout.canon law9) (hown.canon law9)
      subst e
      exact ⟨rfl, by simpa using hout, hgw⟩
    · intro x c w1 cnt1 hwx hwc hlx hat hrg1 hlt hg1 hs1 hen
      have hout1 := hout.kept hg1 (by simp; omega)
      obtain ⟨w2, hrun, hout2, hg2⟩ := hout1.update law9 Try.underlying27 (by unfold maxLen; omega) (key_ok hwx) (plainElem_int Try.underlying35 hwc)
      have hrg2 := hrg1.kept hg2 (by simp; omega) (by simp; omega)
      go_wp2
      go_roundw
      case rel =>
        exact ⟨_, cnt1, _, hrg2, by omega, hout2.mono (by omega), agree_step hA hout.isMap (ky_key _) hat,
          (hgw.andThen hg1 (fun j hj => by cases hj; exact .inl (Nat.le_refl _))).andThen hg2 (fun j hj => .inr hj)⟩
      case measure => rw [hrg2.left_eq, hrg.left_eq]; exact hlt

set_option maxHeartbeats 400000 in
theorem copy_nil (bd : Nat) (w : World) :
    Calls Try.prog 17 #[.map (some bd), .map none] w fun e w' => e = .returned (.tuple #[]) ∧ w.grownBy w' none := by
  have hrg := run_range_nilMap (P := Try.prog) w 27 9 35 Try.underlying27
  have hnx : ∀ ty, (Instr.next (.pointer (some ⟨w.heap.size, 0, none⟩)) false ty).run Try.prog (w.alloc (.mapIter none 0 #[] 0)) = _ := fun ty => run_next_nilMap _ ty 0 0 #[]
  go_enter Try.func17, Try.ntmps17
  go_wp2
  refine wp_loop_rounds 1 ?_
  rw [rounds_succ]
  go_wp2
  go_end0
  exact ⟨rfl, World.grownBy_alloc _ _ _⟩

/-- maps.Copy into an empty map that is not the source. -/
theorem copy_any (r : Option Nat) (bd n : Nat) (D : DataW Unit) (w : World) (hne : r ≠ some bd) (hown : Clk w r n D) (hdst : w.ownsMap (H := Unit) Try.prog 9 (plainElem Try.prog 35) bd 0 (.map [])) (hn : n ≤ 1048576 * 64) :
    Calls Try.prog 17 #[.map (some bd), .map r] w fun e w' => e = .returned (.tuple #[]) ∧ w'.ownsMap Try.prog 9 (plainElem Try.prog 35) bd (Maps.size D) D ∧ w.grownBy w' (some bd) := by
  rcases hown with ⟨rfl, rfl⟩ | ⟨b, rfl, hown⟩
  · refine (copy_nil bd w).mono ?_
    rintro e w' ⟨rfl, hg⟩
    exact ⟨rfl, (hdst.kept hg (by simp)), hg.but _⟩
  · exact copy_some b bd n 0 D w (fun e => hne (by rw [e])) hown hdst rfl hn

end Go.Proofs.Qxb6627451a
