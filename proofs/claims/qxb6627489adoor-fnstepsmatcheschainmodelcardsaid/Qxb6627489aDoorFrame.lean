import Derived.Test.Qxb6627489aDoorBase
import Derived.ProofKit
import Derived.OpenShut
import Derived.ShutString
import Derived.ChangeOld
import Derived.Below
import Derived.SliceStrings
import Derived.LaidMore
import Derived.LaidLaws
import Derived.LaidHandle
import Derived.Lib.LaidTab
import Derived.Stop.Joined
import Derived.Stop.LaidErr
namespace Go.Proofs.Qxb6627489aDoor
open Go.ChangeShapes Go.WideShapes Go.ChangeAt Go.RowKit

theorem own : ownKnob Tryd.prog.godebug = none := by kernel_rfl
theorem laidOut : laidOutB Tryd.prog = true := by kernel_rfl
theorem Tryd.cells9 : Tryd.prog.cellsOf 9 = 1 := by kernel_rfl
theorem Tryd.cells3 : Tryd.prog.cellsOf 3 = 1 := by kernel_rfl
theorem gPow : Tryd.prog.globalNamed tabName = some 0 := by kernel_rfl
theorem tPow : (Tryd.prog.globals[0]?).map (·.type) = some 48 := by kernel_rfl
theorem cells41 : Tryd.prog.cellsOf 41 = 1 := by kernel_rfl
theorem cells48 : Tryd.prog.cellsOf 48 = 20 := by kernel_rfl

/-- From a reading of a slice of strings to what the walks are told. -/
theorem strs_of {H : Type} {enc : TypeId × Value → H} {W : World} {a : Option Addr} {len cap : Nat} {d : DataW H} {p : List MemPlace}
    (h : DataW.Trod enc Tryd.prog W 0 (fun _ => true) true 22 (.slice a len cap) d p) : ∃ ss, Strs W a len ss := by
  obtain ⟨fuel, hf⟩ := h
  rcases open_strings Tryd.underlying22 Tryd.underlying9 Tryd.cells9 hf with ⟨hcs, _⟩ | ⟨x, l, c, zs, hcs, _, hl, hm, hz, _, hcell, hwz⟩
  · simp [Value.cells] at hcs
    obtain ⟨rfl, rfl, rfl⟩ := hcs
    exact ⟨fun _ => ByteArray.empty, ⟨fun j h => by omega, fun h => by omega, Nat.zero_le _⟩⟩
  · simp [Value.cells] at hcs
    obtain ⟨rfl, rfl, rfl⟩ := hcs
    simp only [if_true] at hz
    refine ⟨fun j => zs.getD j ByteArray.empty, ⟨fun j hj => ?_, fun h0 => ?_, Nat.le_trans hl hm⟩⟩
    · have hj' : j < zs.length := by omega
      rw [List.getD, List.getElem?_eq_getElem hj']
      exact hwz _ (List.getElem_mem hj')
    · obtain ⟨b, off, spot⟩ := x
      have hspot : spot = none := by simpa [Addr.add] using World.cell?_spot (hcell 0 (by omega))
      subst hspot
      refine ⟨b, off, rfl, World.block_lt_of_cell? _ _ (hcell 0 (by omega)), fun j hj => ?_⟩
      rw [← add_plain]; exact hcell j (by omega)

theorem i64_bd {c : Int} (h : (Lit.int .i64 c).wf = true) : -9223372036854775808 ≤ c ∧ c ≤ 9223372036854775807 := by
  simp [Lit.wf] at h
  have e1 : IntKind.i64.min = -9223372036854775808 := by decide
  have e2 : IntKind.i64.max = 9223372036854775807 := by decide
  omega

/-- .. of ints. -/
theorem nums_of {H : Type} {enc : TypeId × Value → H} {W : World} {a : Option Addr} {len cap : Nat} {d : DataW H} {p : List MemPlace}
    (h : DataW.Trod enc Tryd.prog W 0 (fun _ => true) true 23 (.slice a len cap) d p) : ∃ zs, Nums W a len zs := by
  obtain ⟨fuel, hf⟩ := h
  rcases open_ints Tryd.underlying23 Tryd.underlying3 Tryd.cells3 hf with ⟨hcs, _⟩ | ⟨x, l, c, zs, hcs, _, hl, hm, hz, _, hcell, hwz⟩
  · simp [Value.cells] at hcs
    obtain ⟨rfl, rfl, rfl⟩ := hcs
    exact ⟨fun _ => 0, ⟨fun j h => by omega, fun h => by omega, Nat.zero_le _⟩⟩
  · simp [Value.cells] at hcs
    obtain ⟨rfl, rfl, rfl⟩ := hcs
    simp only [if_true] at hz
    refine ⟨fun j => zs.getD j 0, ⟨fun j hj => ?_, fun h0 => ?_, Nat.le_trans hl hm⟩⟩
    · have hj' : j < zs.length := by omega
      rw [List.getD, List.getElem?_eq_getElem hj']
      exact i64_bd (hwz _ (List.getElem_mem hj'))
    · obtain ⟨b, off, spot⟩ := x
      have hspot : spot = none := by simpa [Addr.add] using World.cell?_spot (hcell 0 (by omega))
      subst hspot
      refine ⟨b, off, rfl, World.block_lt_of_cell? _ _ (hcell 0 (by omega)), fun j hj => ?_⟩
      rw [← add_plain]; exact hcell j (by omega)

/-- The door's own heap meets the row's condition. -/
theorem door_met (os : Os) (args : Array Value) : laidMetH Tryd.prog Rows.fnStepsMatchesChainModelRow.laid ((World.doorLaid Tryd.prog 24 os).forCall (fun _ _ => 0) ⟨#[], args, []⟩).memory :=
  laidMetH_of_parts3 (fuel := 8) (laidMet_of_run' 8 (by kernel_rfl) (by kernel_rfl)) (by kernel_rfl) (by kernel_rfl)

/-- What the condition gives the walks: the table of the powers of ten. -/
theorem tab_of {W : World} (h : laidMetH Tryd.prog Rows.fnStepsMatchesChainModelRow.laid W) : Tab W := by
  rw [MakeChecks.laidMetH_plain _ _ _ (by kernel_rfl)] at h
  have h3 : laidMet Tryd.prog ((tabName, Lib.tabData .u64 Lib.pow10Tab) :: []) W := h.tail.tail
  exact Lib.tabIs_of_head gPow tPow Tryd.underlying48 Tryd.underlying41 cells41 cells48 h3

end Go.Proofs.Qxb6627489aDoor
