import Derived.Test.Qxb6627578aFmtShelf
import Derived.Test.Qxb6627578aFmtRows
import Derived.WalkKit
import Derived.WalkSpells
import Derived.WalkLawsBesides
import Derived.Deep.QuietTactic
import Derived.BigQuiet
import Derived.RegionTactic
import Derived.Deep.OwnRows
import Derived.WalkSmall
import Derived.Stop.CallBack
import Derived.Stop.IfaceNil
namespace Go.Proofs.Qxb6627578aFmt
open Go.RowKit Go.Extern.Stop Go.Stop Go.Extern

/-! ### fmt.errorf: the closed facts of this program -/
theorem call11 (args : Array Value) (w : World) : (callFunc 11 args).run Tryf.prog w = ((FmtStop.errorf #[9, 34] #[28] args).run Tryf.prog w).andThen fun v w' => .ok (.value v) w' :=
  run_callFunc_extern Tryf.func11 (by kernel_rfl) (by kernel_rfl) (by kernel_rfl) (by kernel_rfl) args w
theorem fguard (name : String) (w : World) : (FmtStop.guard name).run Tryf.prog w = .ok () w := by kernel_rfl
def fmtB : ByteArray := ⟨#[112, 101, 101, 114, 119, 105, 114, 101, 58, 32, 98, 105, 116, 102, 105, 101, 108, 100, 32, 111, 102, 32, 37, 100, 32, 98, 121, 116, 101, 115, 44, 32, 119, 97, 110, 116, 32, 37, 100, 32, 102, 111, 114, 32, 37, 100, 32, 112, 105, 101, 99, 101, 115]⟩
theorem fmt0 : FmtStop.printed? ⟨#[112, 101, 101, 114, 119, 105, 114, 101, 58, 32, 98, 105, 116, 102, 105, 101, 108, 100, 32, 111, 102, 32, 37, 100, 32, 98, 121, 116, 101, 115, 44, 32, 119, 97, 110, 116, 32, 37, 100, 32, 102, 111, 114, 32, 37, 100, 32, 112, 105, 101, 99, 101, 115]⟩ 3 = some [(0, 100, false), (1, 100, false), (2, 100, false)] := by kernel_rfl
theorem fmt0r (w : World) : (FmtDoors.printed ⟨#[112, 101, 101, 114, 119, 105, 114, 101, 58, 32, 98, 105, 116, 102, 105, 101, 108, 100, 32, 111, 102, 32, 37, 100, 32, 98, 121, 116, 101, 115, 44, 32, 119, 97, 110, 116, 32, 37, 100, 32, 102, 111, 114, 32, 37, 100, 32, 112, 105, 101, 99, 101, 115]⟩ 3).run Tryf.prog w = .ok [(0, 100, false), (1, 100, false), (2, 100, false)] w := by kernel_rfl
def shape3 : List UInt8 := [5, 3, 0, 0, 0, 0, 0, 0, 0, 105, 110, 116]
theorem op3_100 (name : String) (x : Int) (w : World) : (FmtStop.operand name false 100 false (.iface 3 (.int .i64 x))).run Tryf.prog w = .ok (shape3, Go.Extern.Stop.digits 8 (x % 2 ^ 64).toNat) w := by kernel_rfl
theorem op3_100w (name : String) (x : Int) (w : World) : (FmtStop.operand name true 100 false (.iface 3 (.int .i64 x))).run Tryf.prog w = .ok (shape3, Go.Extern.Stop.digits 8 (x % 2 ^ 64).toNat) w := by kernel_rfl
theorem ptr36 (w : World) : (FmtStop.ptrTo "errors.errorString").run Tryf.prog w = .ok 36 w := by kernel_rfl
theorem elem36 (w : World) : (elemOf 36).run Tryf.prog w = .ok 38 w := by kernel_rfl
theorem isError36 (w : World) : (FmtDoors.textMethod 36 "Error").run Tryf.prog w = .ok true w := by kernel_rfl

/-- What a refusal is: no set; an error that is not nil. -/
def Refused (w : World) (e : Ending) (w' : World) : Prop := ∃ x, e = .returned (.tuple #[.slice none 0 0, .iface 36 (.pointer x)]) ∧ Below w.heap.size w w'

set_option maxHeartbeats 1000000 in
theorem parse_size (F : Interp) (a : Option Addr) (n c : Nat) (p : Int) (w : World) (hF : F.answers w.tape) (hp0 : 0 ≤ p) (hp : p ≤ 1073741824) (hne : ((n : Int) != (p + 7) / 8) = true) :
    Calls Tryf.prog 6 #[.slice a n c, .int .i64 p] w fun e w' => Refused w e w' := by
  have hF' := answers_open hF
  have k1 := call11
  have k2 := fguard
  have k3 := fmt0
  have k4 := fmt0r
  have k5 := op3_100
  have k6 := op3_100w
  have k7 := ptr36
  have k8 := elem36
  have k9 := isError36
  clear hF
  go_enter Tryf.func6, Tryf.ntmps6
  go_wp2
  go_ret2
  exact ⟨_, rfl, (((Below.refl _ _).alloc (Nat.le_refl _) _).alloc (by simp) _).drew⟩

/-! ### slices of bytes -/
/-- A slice of bytes whose cells lie below block B. -/
structure Byts (w : World) (B : Nat) (a : Option Addr) (len : Nat) (zs : Nat → Int) : Prop where
  bd : ∀ j, j < len → 0 ≤ zs j ∧ zs j < 256
  cells : 0 < len → ∃ b off, a = some ⟨b, off, none⟩ ∧ b < B ∧ ∀ j, j < len → w.cell? ⟨b, off + j, none⟩ = some (.int .u8 (zs j))
  len_le : len ≤ maxLen
theorem Byts.below {w w' : World} {B : Nat} {a : Option Addr} {len : Nat} {zs : Nat → Int} (h : Byts w B a len zs) (hb : Below B w w') : Byts w' B a len zs :=
  ⟨h.bd, fun h0 => by
    obtain ⟨b, off, ha, hlt, hc⟩ := h.cells h0
    exact ⟨b, off, ha, hlt, fun j hj => (hb.cell (p := ⟨b, off + j, none⟩) hlt).trans (hc j hj)⟩, h.len_le⟩
theorem Byts.mono {w : World} {B B' : Nat} {a : Option Addr} {len : Nat} {zs : Nat → Int} (h : Byts w B a len zs) (hB : B ≤ B') : Byts w B' a len zs :=
  ⟨h.bd, fun h0 => by
    obtain ⟨b, off, ha, hlt, hc⟩ := h.cells h0
    exact ⟨b, off, ha, Nat.lt_of_lt_of_le hlt hB, hc⟩, h.len_le⟩
theorem Byts.drewN {w : World} {B : Nat} {a : Option Addr} {len : Nat} {zs : Nat → Int} (h : Byts w B a len zs) (m : Nat) : Byts (w.drewN m) B a len zs := ⟨h.bd, h.cells, h.len_le⟩
theorem sz5 (w : World) : (sizeOf 5).run Tryf.prog w = .ok 1 w := by kernel_rfl
theorem el22 : Tryf.prog.elem 22 = 5 := by simp [Program.elem, Tryf.underlying22]
theorem Byts.idx {w : World} {B : Nat} {a : Option Addr} {len : Nat} {zs : Nat → Int} (h : Byts w B a len zs) {k : Nat} (hk : k < len) (cap : Nat) :
    ∃ b o, (∀ w1 : World, (Instr.indexAt 22 (.slice a len cap) (.int .i64 (k : Int))).run Tryf.prog w1 = .ok (.pointer (some ⟨b, o, none⟩)) w1) ∧ w.cell? ⟨b, o, none⟩ = some (.int .u8 (zs k)) ∧ b < B := by
  obtain ⟨b, off, rfl, hlt, hc⟩ := h.cells (by omega)
  refine ⟨b, off + k, fun w1 => ?_, hc k hk, hlt⟩
  rw [run_indexAt_slice (P := Tryf.prog) w1 22 ⟨b, off, none⟩ len cap .i64 (k : Int) (by rw [el22]; exact Tryf.underlying22), if_pos (by omega), el22, sz5]
  simp [Result.andThen, Addr.add]

/-- What a test answers; if yes, ok. -/
def BPost (ok : Prop) (e : Ending) : Prop := ∃ x : Bool, e = .returned (.bool x) ∧ (x = true → ok)

set_option maxHeartbeats 1000000 in
theorem bytes_any (a0 : Option Addr) (l0 c0 : Nat) (k : Int) (w : World) (m0 : l0 ≤ maxLen) :
    Calls Tryf.prog 4 #[.slice a0 l0 c0, .int .i64 k] w fun e w' => BPost True e ∧ w = w' := by
  unfold maxLen at m0
  go_enter Tryf.func4, Tryf.ntmps4
  by_cases h : (1048576 : Int) < l0
  · go_wp2
    go_ret
    exact ⟨⟨_, rfl, fun _ => trivial⟩, rfl⟩
  · go_wp2
    go_ret
    exact ⟨⟨_, rfl, fun _ => trivial⟩, rfl⟩

/-! ### the copy -/
structure Fill (w : World) (G n k : Nat) (fs : Nat → Int) : Prop where
  cell : ∀ j, j < n → w.cell? ⟨G, j, none⟩ = some (.int .u8 (if j < k then fs j else 0))
  frozen : ∀ j, j < n → w.frozen? ⟨G, j, none⟩ = false
theorem Fill.store {w : World} {G n k : Nat} {fs : Nat → Int} (h : Fill w G n k fs) (hk : k < n) : Fill (w.setCell ⟨G, k, none⟩ (.int .u8 (fs k))) G n (k + 1) fs := by
  refine ⟨fun j hj => ?_, fun j hj => by rw [World.frozen?_setCell]; exact h.frozen j hj⟩
  by_cases e : j = k
  · subst e
    rw [World.cell?_setCell_same w _ _ (h.cell j hj), if_pos (by omega)]
  · rw [World.cell?_setCell_other _ _ _ _ (by intro e'; have h2 := congrArg Addr.off e'; dsimp only at h2; omega), h.cell j hj]
    by_cases c : j < k
    · rw [if_pos c, if_pos (by omega)]
    · rw [if_neg c, if_neg (by omega)]
theorem fill_made (w : World) (n : Nat) (fs : Nat → Int) : Fill (w.alloc (.cells (madeCells #[.int .u8 0] n) 5)) w.heap.size n 0 fs := by
  refine ⟨fun j hj => ?_, fun j hj => World.frozen?_alloc_new _ _ _ _⟩
  rw [if_neg (by omega), World.cell?_alloc_new]
  simp [madeCells, hj, Nat.mod_one]
def RelC (w : World) (n : Nat) (fs : Nat → Int) (i : Value) (wr : World) : Prop :=
  ∃ k : Nat, k ≤ n ∧ i = .int .i64 k ∧ Fill wr w.heap.size n k fs ∧ wr.heap.size = w.heap.size + 1 ∧ Below w.heap.size w wr
theorem info5 : (Tryf.prog.info? 5).map (fun i => (i.zero, i.size, i.bytes)) = some (some (.int .u8 0), 1, 1) := by kernel_rfl

set_option maxHeartbeats 1000000 in
theorem clone_some (B : Nat) (x : Addr) (n c : Nat) (fs : Nat → Int) (w : World) (h : Byts w B (some x) n fs) (hB : B ≤ w.heap.size) (hn : n ≤ 1048576) :
    Calls Tryf.prog 5 #[.slice (some x) n c] w fun e w' => e = .returned (.slice (some ⟨w.heap.size, 0, none⟩) n n) ∧ Fill w' w.heap.size n n fs ∧ w'.heap.size = w.heap.size + 1 ∧ Below w.heap.size w w' := by
  have hmk := fun w => run_make_row' (P := Tryf.prog) 22 5 (.int .u8 0) 1 Tryf.underlying22 info5 rfl .i64 .i64 n (by omega) (by omega) w
  have q : ∀ (w : World) (a : Option Addr) (n c : Nat), (binOp .eql 22 (.slice a n c) (.slice none 0 0)).run Tryf.prog w = .ok (.bool a.isNone) w := fun w a n c => Lib.run_eql_slice_nil w _ _ a n c 0 0 Tryf.underlying22
  go_enter Tryf.func5, Tryf.ntmps5
  go_wp2
  clear hmk q
  go_loopw [4] (fun i wr => RelC w n fs i wr) (fun i _ => n - (intOf i).toNat)
  case atStart => exact ⟨0, Nat.zero_le _, rfl, fill_made w n fs, by simp, (Below.refl _ _).alloc (Nat.le_refl _) _⟩
  case round =>
    obtain ⟨k, hk, rfl, F, hsz, hnx⟩ := hrel
    by_cases hlt : k < n
    · obtain ⟨b, o, hix, hcx, hb⟩ := h.idx hlt c
      have hc2 : wr.cell? ⟨b, o, none⟩ = some (.int .u8 (fs k)) := (hnx.cell (p := ⟨b, o, none⟩) (by show b < _; omega)).trans hcx
      have hcm := F.cell k hlt
      rw [if_neg (by omega)] at hcm
      have hfm := F.frozen k hlt
      have F2 := F.store hlt
      have B2 : Below w.heap.size w (wr.setCell ⟨w.heap.size, k, none⟩ (.int .u8 (fs k))) := hnx.setCell (Nat.le_refl _) _
      have HS : Hid (wr.heap.size = w.heap.size + 1) := hsz
      clear h hcx F hnx hsz
      go_wp2
      go_roundw
      case rel => exact ⟨k + 1, by omega, by go_num, F2, by simpa [World.setCell] using HS.out, B2⟩
      case measure => simp [intOf]; omega
    · obtain rfl : n = k := by omega
      have HS : Hid (wr.heap.size = w.heap.size + 1) := hsz
      clear h hsz
      go_wp2
      go_ret
      exact ⟨rfl, F, HS.out, hnx⟩

set_option maxHeartbeats 400000 in
theorem clone_nil (n c : Nat) (w : World) : Calls Tryf.prog 5 #[.slice none n c] w fun e w' => e = .returned (.slice none 0 0) ∧ w = w' := by
  have q : ∀ (w : World) (a : Option Addr) (n c : Nat), (binOp .eql 22 (.slice a n c) (.slice none 0 0)).run Tryf.prog w = .ok (.bool a.isNone) w := fun w a n c => Lib.run_eql_slice_nil w _ _ a n c 0 0 Tryf.underlying22
  go_enter Tryf.func5, Tryf.ntmps5
  go_wp2
  go_ret
  exact ⟨rfl, rfl⟩

/-- A copy: a row of bytes of the call's own. -/
structure Row (w : World) (G n : Nat) (zs : Nat → Int) : Prop where
  cell : ∀ j, j < n → w.cell? ⟨G, j, none⟩ = some (.int .u8 (zs j))
  frozen : ∀ j, j < n → w.frozen? ⟨G, j, none⟩ = false
  lt : G < w.heap.size
theorem Row.byts {w : World} {G n B : Nat} {zs : Nat → Int} (h : Row w G n zs) (hB : G < B) (hn : n ≤ maxLen) (bd : ∀ j, j < n → 0 ≤ zs j ∧ zs j < 256) : Byts w B (some ⟨G, 0, none⟩) n zs :=
  ⟨bd, fun _ => ⟨G, 0, rfl, hB, fun j hj => by rw [Nat.zero_add]; exact h.cell j hj⟩, hn⟩

/-- What zzCloneBytes hands back. -/
def ClonePost (w : World) (a : Option Addr) (n : Nat) (fs : Nat → Int) (e : Ending) (w' : World) : Prop :=
  Below w.heap.size w w' ∧ ((a = none ∧ n = 0 ∧ e = .returned (.slice none 0 0)) ∨ (e = .returned (.slice (some ⟨w.heap.size, 0, none⟩) n n) ∧ Row w' w.heap.size n fs))
theorem clone_any (B : Nat) (a : Option Addr) (n c : Nat) (fs : Nat → Int) (w : World) (h : Byts w B a n fs) (hB : B ≤ w.heap.size) (hn : n ≤ 1048576) :
    Calls Tryf.prog 5 #[.slice a n c] w fun e w' => ClonePost w a n fs e w' := by
  cases a with
  | none =>
    have h0 : n = 0 := by
      rcases Nat.eq_zero_or_pos n with h0 | h0
      · exact h0
      · obtain ⟨b, off, ha, _⟩ := h.cells h0; cases ha
    subst h0
    refine (clone_nil 0 c w).mono ?_
    rintro e w' ⟨rfl, rfl⟩
    exact ⟨Below.refl _ _, .inl ⟨rfl, rfl, rfl⟩⟩
  | some x =>
    refine (clone_some B x n c fs w h hB hn).mono ?_
    rintro e w' ⟨rfl, F, hs, hb⟩
    refine ⟨hb, .inr ⟨rfl, fun j hj => ?_, F.frozen, by omega⟩⟩
    have := F.cell j hj
    rw [if_pos hj] at this
    exact this

/-! ### the comparison -/
theorem drew_ex {w wr : World} {m : Nat} (h : wr = w.drewN m) (k : Nat) : ∃ m', wr.drewN k = w.drewN m' := ⟨m + k, by rw [h, World.drewN_drewN]⟩
def SRel (w : World) (n : Nat) (xs ys : Nat → Int) (i : Value) (wr : World) : Prop := ∃ k : Nat, k ≤ n ∧ i = .int .i64 k ∧ (∀ j, j < k → xs j = ys j) ∧ ∃ m, wr = w.drewN m
def SPost (w : World) (n n2 : Nat) (xs ys : Nat → Int) (e : Ending) (w' : World) : Prop := (∃ x : Bool, e = .returned (.bool x) ∧ (x = true ↔ n = n2 ∧ ∀ j, j < n → xs j = ys j)) ∧ ∃ m, w' = w.drewN m

set_option maxHeartbeats 1000000 in
theorem same_any (B : Nat) (a a2 : Option Addr) (n c n2 c2 : Nat) (xs ys : Nat → Int) (w : World) (h : Byts w B a n xs) (h2 : Byts w B a2 n2 ys) :
    Calls Tryf.prog 7 #[.slice a n c, .slice a2 n2 c2] w fun e w' => SPost w n n2 xs ys e w' := by
  have m0 := h.len_le
  unfold maxLen at m0
  go_enter Tryf.func7, Tryf.ntmps7
  by_cases hn : n = n2
  · subst hn
    go_wp2
    go_loopw [5] (fun i wr => SRel w n xs ys i wr) (fun i _ => n - (intOf i).toNat)
    case atStart => exact ⟨0, Nat.zero_le _, rfl, fun j hj => by omega, 0, rfl⟩
    case round =>
      obtain ⟨k, hk, rfl, hall, mm, hwr⟩ := hrel
      have HW : Hid (wr = w.drewN mm) := hwr
      have HA : Hid (∀ j, j < k → xs j = ys j) := hall
      clear hall
      by_cases hlt : k < n
      · obtain ⟨b, o, hix, hcx, _⟩ := h.idx hlt c
        obtain ⟨b2, o2, hix2, hcx2, _⟩ := h2.idx hlt c2
        have e1 : wr.cell? ⟨b, o, none⟩ = some (.int .u8 (xs k)) := by rw [hwr]; exact hcx
        have e2 : wr.cell? ⟨b2, o2, none⟩ = some (.int .u8 (ys k)) := by rw [hwr]; exact hcx2
        clear hcx hcx2 hwr h h2
        by_cases he : xs k = ys k
        · have HE : Hid (xs k = ys k) := he
          rw [← he] at e2
          clear he
          go_wp2_with fail
          go_quiet (fail)
          go_wp2_with fail
          go_roundw
          case rel =>
            refine ⟨k + 1, by omega, by go_num, fun j hj => ?_, drew_ex HW.out _⟩
            by_cases e : j = k
            · subst e; exact HE.out
            · exact HA.out j (by omega)
          case measure => simp [intOf]; omega
        · have hd : (xs k != ys k) = true := by simp [he]
          have HE : Hid (¬ xs k = ys k) := he
          have HL : Hid (k < n) := hlt
          clear he
          go_wp2_with fail
          go_quiet (fail)
          go_wp2_with fail
          go_ret
          exact ⟨⟨false, rfl, ⟨fun h => (by cases h), fun h => absurd (h.2 k HL.out) HE.out⟩⟩, drew_ex HW.out _⟩
      · obtain rfl : n = k := by omega
        clear hwr h h2
        go_wp2_with fail
        go_ret
        exact ⟨⟨true, rfl, ⟨fun _ => ⟨rfl, HA.out⟩, fun _ => rfl⟩⟩, _, HW.out⟩
  · have hd : ((n : Int) != (n2 : Int)) = true := by simp; omega
    have HN : Hid (¬ n = n2) := hn
    clear hn
    go_wp2
    go_ret
    exact ⟨⟨false, rfl, ⟨fun h => (by cases h), fun h => absurd h.1 HN.out⟩⟩, 0, rfl⟩

end Go.Proofs.Qxb6627578aFmt
