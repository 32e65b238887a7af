import Derived.Test.Qxb6627451aRows
import Derived.WalkKit
import Derived.WalkSpells
import Derived.WalkLawsBesides
import Derived.Maps.OwnOps
import Derived.Maps.OwnSet
import Derived.Maps.RangeWalk
import Derived.Maps.Ext
import Derived.Deep.QuietTactic
import Derived.BigQuiet
import Derived.RegionTactic
import Derived.StringKeys
namespace Go.Proofs.Qxb6627451a
open Go.RowKit Go.Maps Go.WideShapes Go.WideElems Go.WideMaps

theorem law9 : Keyed Try.prog 9 := string_keyed Try.underlying9
theorem zero35 (w : World) : (zeroValue 35).run Try.prog w = .ok (.int .u64 0) w := by kernel_rfl
theorem zero4 (w : World) : (zeroValue 4).run Try.prog w = .ok (.bool false) w := by kernel_rfl

/-- What a string reads as, as a key. -/
def ky (s : ByteArray) : Lit := .string s.data.toList
theorem key_ok {s : ByteArray} (h : s.size ≤ maxLen) : keyOf Try.prog 9 (.string s) = some (ky s) := keyOf_string_mk Try.underlying9 h
theorem ky_key (s : ByteArray) : WideAt.IsKeyLit (ky s) := trivial

/-- The number at a key; nought where there is none. -/
def val (D : DataW Unit) (k : Lit) : Int :=
  match D.atKey k (.lit (.int .u64 0)) with
  | .lit (.int _ c) => c
  | _ => 0
theorem val_of {D : DataW Unit} {k : Lit} {q : IntKind} {c : Int} (h : D.atKey k (.lit (.int .u64 0)) = .lit (.int q c)) : val D k = c := by
  unfold val; rw [h]
theorem val_put_same {D : DataW Unit} {k : Lit} (hD : IsMap D) (hk : WideAt.IsKeyLit k) (q : IntKind) (c : Int) : val (D.put k (.lit (.int q c))) k = c :=
  val_of (atKey_put_same hD hk _ _)
theorem val_put_other {D : DataW Unit} {k k' : Lit} (hne : k' ≠ k) (d : DataW Unit) : val (D.put k d) k' = val D k' := by
  unfold val; rw [atKey_put_other hne]
theorem val_of_not_has {D : DataW Unit} {k : Lit} (h : Maps.has D k = false) : val D k = 0 := by
  unfold val; rw [atKey_of_not_has h]

/-- A clock: nil (then it reads as an empty map), or a block that reads as D. -/
def Clk (w : World) (r : Option Nat) (n : Nat) (D : DataW Unit) : Prop :=
  (r = none ∧ D = .map []) ∨ ∃ b, r = some b ∧ w.ownsMap Try.prog 9 (plainElem Try.prog 35) b n D

theorem Clk.isMap {w : World} {r : Option Nat} {n : Nat} {D : DataW Unit} (h : Clk w r n D) : IsMap D := by
  rcases h with ⟨_, rfl⟩ | ⟨b, _, h⟩
  · exact isMap_empty
  · exact h.isMap
theorem Clk.tidy {w : World} {r : Option Nat} {n : Nat} {D : DataW Unit} (h : Clk w r n D) : Tidy D := by
  rcases h with ⟨_, rfl⟩ | ⟨b, _, h⟩
  · exact tidy_empty
  · exact h.tidy law9
theorem Clk.lt {w : World} {r : Option Nat} {n : Nat} {D : DataW Unit} (h : Clk w r n D) : ∀ b, r = some b → b < w.heap.size := by
  rcases h with ⟨rfl, _⟩ | ⟨b, rfl, h⟩
  · intro b hb; cases hb
  · intro b' hb; cases hb; exact h.lt
theorem Clk.kept {w w' : World} {r row : Option Nat} {n : Nat} {D : DataW Unit} (h : Clk w r n D) (hg : w.grownBy w' row) (hne : ∀ b, r = some b → some b ≠ row) : Clk w' r n D := by
  rcases h with ⟨h1, h2⟩ | ⟨b, rfl, h⟩
  · exact .inl ⟨h1, h2⟩
  · exact .inr ⟨b, rfl, h.kept hg (hne b rfl)⟩
theorem grown_of_below {w w' : World} (hb : Below w.heap.size w w') : w.grownBy w' none := ⟨hb.os, hb.tape, hb.output, hb.size, fun i hi _ => hb.block i hi⟩
theorem Clk.below {w w' : World} {r : Option Nat} {n : Nat} {D : DataW Unit} (h : Clk w r n D) (hb : Below w.heap.size w w') : Clk w' r n D :=
  h.kept (grown_of_below hb) (fun b _ => by simp)
theorem Clk.drewN {w : World} {r : Option Nat} {n : Nat} {D : DataW Unit} (h : Clk w r n D) (m : Nat) : Clk (w.drewN m) r n D := h
theorem Clk.mono {w : World} {r : Option Nat} {n n' : Nat} {D : DataW Unit} (h : Clk w r n D) (hn : n ≤ n') : Clk w r n' D := by
  rcases h with ⟨h1, h2⟩ | ⟨b, rfl, h⟩
  · exact .inl ⟨h1, h2⟩
  · exact .inr ⟨b, rfl, h.mono hn⟩
theorem Clk.size_le {w : World} {r : Option Nat} {n : Nat} {D : DataW Unit} (h : Clk w r n D) : Maps.size D ≤ n := by
  rcases h with ⟨_, rfl⟩ | ⟨b, _, h⟩
  · exact Nat.zero_le _
  · exact h.size_le

/-- 'm[k]' -/
theorem Clk.look {w : World} {r : Option Nat} {n : Nat} {D : DataW Unit} (h : Clk w r n D) {s : ByteArray} (hs : s.size ≤ maxLen) :
    (Instr.lookup 27 (.map r) (.string s) false).run Try.prog w = .ok (.int .u64 (val D (ky s))) w := by
  rcases h with ⟨rfl, rfl⟩ | ⟨b, rfl, h⟩
  · exact Maps.look_nil false law9 Try.underlying27 (zero35 w) (key_ok hs)
  · obtain ⟨c, hrun, hat, _⟩ := h.lookup_int law9 Try.underlying27 Try.underlying35 (zero35 w) (key_ok hs)
    rw [val_of hat]; exact hrun

/-- 'v, ok := m[k]' -/
theorem Clk.look_ok {w : World} {r : Option Nat} {n : Nat} {D : DataW Unit} (h : Clk w r n D) {s : ByteArray} (hs : s.size ≤ maxLen) :
    (Instr.lookup 27 (.map r) (.string s) true).run Try.prog w = .ok (.tuple #[.int .u64 (val D (ky s)), .bool (Maps.has D (ky s))]) w := by
  rcases h with ⟨rfl, rfl⟩ | ⟨b, rfl, h⟩
  · exact Maps.look_nil true law9 Try.underlying27 (zero35 w) (key_ok hs)
  · obtain ⟨v, ps, hrun, hv⟩ := World.ownsMap.look_ok h law9 Try.underlying27 (zero35 w) (plainElem_int Try.underlying35 (by decide)) (key_ok hs)
    obtain ⟨c, rfl, hc, _⟩ := plainElem_int_inv Try.underlying35 hv
    rw [val_of (congrArg Prod.fst hc)]; exact hrun

/-- 'len(m)' -/
theorem Clk.len {w : World} {r : Option Nat} {n : Nat} {D : DataW Unit} (h : Clk w r n D) (ty : TypeId) :
    (Builtin.len_ #[27] ty #[.map r]).run Try.prog w = .ok (.int .i64 (Maps.size D)) w := by
  rcases h with ⟨rfl, rfl⟩ | ⟨b, rfl, h⟩
  · exact Maps.len_nil Try.underlying27 ty
  · exact h.len Try.underlying27 ty

theorem run_makeHint (n : Int) (w : World) : (Instr.makeMap 27 (some (.int .i64 n))).run Try.prog w = .ok (.map (some w.heap.size)) (w.alloc (.map #[] 0)) := by
  simp [Instr.makeMap, run_underlying Try.underlying27, asInt, asIntOf, Result.andThen]
theorem eql_nil (r : Option Nat) (w : World) : (binOp .eql 27 (.map r) (.map none)).run Try.prog w = .ok (.bool r.isNone) w := run_eql_map_nil w _ _ _ r Try.underlying27

/-! ### the slices that came in -/
/-- A slice of strings: its elements are 'ss 0', 'ss 1' .. -/
structure Strs (w : World) (a : Option Addr) (len : Nat) (ss : Nat → ByteArray) : Prop where
  size : ∀ j, j < len → (ss j).size ≤ maxLen
  cells : 0 < len → ∃ b off, a = some ⟨b, off, none⟩ ∧ b < w.heap.size ∧ ∀ j, j < len → w.cell? ⟨b, off + j, none⟩ = some (.string (ss j))
  len_le : len ≤ maxLen
structure Nums (w : World) (a : Option Addr) (len : Nat) (zs : Nat → Int) : Prop where
  wf : ∀ j, j < len → (Lit.int .u64 (zs j)).wf = true
  cells : 0 < len → ∃ b off, a = some ⟨b, off, none⟩ ∧ b < w.heap.size ∧ ∀ j, j < len → w.cell? ⟨b, off + j, none⟩ = some (.int .u64 (zs j))
  len_le : len ≤ maxLen

theorem Strs.below {w w' : World} {a : Option Addr} {len : Nat} {ss : Nat → ByteArray} (h : Strs w a len ss) (hb : Below w.heap.size w w') : Strs w' a len ss :=
  ⟨h.size, fun h0 => by
    obtain ⟨b, off, ha, hlt, hc⟩ := h.cells h0
    exact ⟨b, off, ha, Nat.lt_of_lt_of_le hlt hb.size, fun j hj => (hb.cell (p := ⟨b, off + j, none⟩) hlt).trans (hc j hj)⟩, h.len_le⟩
theorem Nums.below {w w' : World} {a : Option Addr} {len : Nat} {zs : Nat → Int} (h : Nums w a len zs) (hb : Below w.heap.size w w') : Nums w' a len zs :=
  ⟨h.wf, fun h0 => by
    obtain ⟨b, off, ha, hlt, hc⟩ := h.cells h0
    exact ⟨b, off, ha, Nat.lt_of_lt_of_le hlt hb.size, fun j hj => (hb.cell (p := ⟨b, off + j, none⟩) hlt).trans (hc j hj)⟩, h.len_le⟩
theorem Strs.nil_len {w : World} {len : Nat} {ss : Nat → ByteArray} (h : Strs w none len ss) : len = 0 := by
  rcases Nat.eq_zero_or_pos len with h0 | h0
  · exact h0
  · obtain ⟨b, off, ha, _⟩ := h.cells h0; cases ha

theorem sz9 (w : World) : (sizeOf 9).run Try.prog w = .ok 1 w := by kernel_rfl
theorem sz35 (w : World) : (sizeOf 35).run Try.prog w = .ok 1 w := by kernel_rfl
theorem el22 : Try.prog.elem 22 = 9 := by simp [Program.elem, Try.underlying22]
theorem el23 : Try.prog.elem 23 = 35 := by simp [Program.elem, Try.underlying23]
/-- 'ks[k]': where the element lies; one fact serves the nil slice, the empty one and the rest. -/
theorem Strs.idx {w : World} {a : Option Addr} {len : Nat} {ss : Nat → ByteArray} (h : Strs w a len ss) {k : Nat} (hk : k < len) (cap : Nat) :
    ∃ b o, (∀ w1 : World, (Instr.indexAt 22 (.slice a len cap) (.int .i64 (k : Int))).run Try.prog w1 = .ok (.pointer (some ⟨b, o, none⟩)) w1) ∧ w.cell? ⟨b, o, none⟩ = some (.string (ss k)) ∧ b < w.heap.size := by
  obtain ⟨b, off, rfl, hlt, hc⟩ := h.cells (by omega)
  refine ⟨b, off + k, fun w1 => ?_, hc k hk, hlt⟩
  rw [run_indexAt_slice (P := Try.prog) w1 22 ⟨b, off, none⟩ len cap .i64 (k : Int) (by rw [el22]; exact Try.underlying22), if_pos (by omega), el22, sz9]
  simp [Result.andThen, Addr.add]
theorem Nums.idx {w : World} {a : Option Addr} {len : Nat} {zs : Nat → Int} (h : Nums w a len zs) {k : Nat} (hk : k < len) (cap : Nat) :
    ∃ b o, (∀ w1 : World, (Instr.indexAt 23 (.slice a len cap) (.int .i64 (k : Int))).run Try.prog w1 = .ok (.pointer (some ⟨b, o, none⟩)) w1) ∧ w.cell? ⟨b, o, none⟩ = some (.int .u64 (zs k)) ∧ b < w.heap.size := by
  obtain ⟨b, off, rfl, hlt, hc⟩ := h.cells (by omega)
  refine ⟨b, off + k, fun w1 => ?_, hc k hk, hlt⟩
  rw [run_indexAt_slice (P := Try.prog) w1 23 ⟨b, off, none⟩ len cap .i64 (k : Int) (by rw [el23]; exact Try.underlying23), if_pos (by omega), el23, sz35]
  simp [Result.andThen, Addr.add]

/-- The clock that the pairs tell, after k of them. -/
def bD (ss : Nat → ByteArray) (zs : Nat → Int) : Nat → DataW Unit
  | 0 => .map []
  | k + 1 => (bD ss zs k).put (ky (ss k)) (.lit (.int .u64 (zs k)))
theorem bD_isMap (ss : Nat → ByteArray) (zs : Nat → Int) : ∀ k, IsMap (bD ss zs k)
  | 0 => isMap_empty
  | k + 1 => (bD_isMap ss zs k).put _ _
/-- Is the key among the first k? -/
def among (ss : Nat → ByteArray) : Nat → Lit → Bool
  | 0, _ => false
  | k + 1, x => among ss k x || (ky (ss k)).sameKey x
theorem has_bD (ss : Nat → ByteArray) (zs : Nat → Int) (x : Lit) : ∀ k, Maps.has (bD ss zs k) x = among ss k x
  | 0 => rfl
  | k + 1 => by
    show Maps.has ((bD ss zs k).put (ky (ss k)) _) x = (among ss k x || (ky (ss k)).sameKey x)
    by_cases e : x = ky (ss k)
    · subst e
      rw [has_put_same (bD_isMap ss zs k) (ky_key _), WideAt.sameKey_self (ky_key _)]; simp
    · rw [has_put_other e, has_bD ss zs x k, sameKey_ne (fun h => e h.symm)]; simp
theorem among_of (ss : Nat → ByteArray) : ∀ k j, j < k → among ss k (ky (ss j)) = true
  | 0, j, h => by omega
  | k + 1, j, h => by
    show (among ss k (ky (ss j)) || (ky (ss k)).sameKey (ky (ss j))) = true
    by_cases e : j = k
    · subst e; rw [WideAt.sameKey_self (ky_key _)]; simp
    · rw [among_of ss k j (by omega)]; rfl

end Go.Proofs.Qxb6627451a
