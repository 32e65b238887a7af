import Derived.Test.Qxb6627578aFmtBase
import Derived.ProofKit
import Derived.OpenShut
import Derived.ChangeOld
import Derived.Below
namespace Go.Proofs.Qxb6627578aFmt
open Go.ChangeShapes Go.WideShapes Go.ChangeAt Go.RowKit

theorem own : ownKnob Tryf.prog.godebug = none := by kernel_rfl
theorem laidOut : laidOutB Tryf.prog = true := by kernel_rfl
theorem Tryf.cells5 : Tryf.prog.cellsOf 5 = 1 := by kernel_rfl

/-- From a reading of a slice of bytes to what the walks are told. -/
theorem byts_of {H : Type} {enc : TypeId × Value → H} {W : World} {a : Option Addr} {len cap : Nat} {d : DataW H} {p : List MemPlace}
    (h : DataW.Trod enc Tryf.prog W 0 (fun _ => true) true 22 (.slice a len cap) d p) : ∃ zs, Byts W W.heap.size a len zs := by
  obtain ⟨fuel, hf⟩ := h
  rcases open_ints Tryf.underlying22 Tryf.underlying5 Tryf.cells5 hf with ⟨hcs, _⟩ | ⟨x, l, c, zs, hcs, _, hl, hm, hz, _, hcell, hwz⟩
  · simp [Value.cells] at hcs
    obtain ⟨rfl, rfl, rfl⟩ := hcs
    exact ⟨fun _ => 0, ⟨fun j h => by omega, fun h => by omega, Nat.zero_le _⟩⟩
  · simp [Value.cells] at hcs
    obtain ⟨rfl, rfl, rfl⟩ := hcs
    simp only [if_true] at hz
    refine ⟨fun j => zs.getD j 0, ⟨fun j hj => ?_, fun h0 => ?_, Nat.le_trans hl hm⟩⟩
    · have hj' : j < zs.length := by omega
      rw [List.getD, List.getElem?_eq_getElem hj']
      simp only [Option.getD_some]
      have hmin : IntKind.u8.min = 0 := by decide
      have hmax : IntKind.u8.max = 255 := by decide
      have h2 := hwz _ (List.getElem_mem hj')
      simp only [Lit.wf, Bool.and_eq_true, decide_eq_true_eq, hmin, hmax] at h2
      omega
    · obtain ⟨b, off, spot⟩ := x
      have hspot : spot = none := by simpa [Addr.add] using World.cell?_spot (hcell 0 (by omega))
      subst hspot
      refine ⟨b, off, rfl, World.block_lt_of_cell? _ _ (hcell 0 (by omega)), fun j hj => ?_⟩
      rw [← add_plain]; exact hcell j (by omega)

end Go.Proofs.Qxb6627578aFmt
