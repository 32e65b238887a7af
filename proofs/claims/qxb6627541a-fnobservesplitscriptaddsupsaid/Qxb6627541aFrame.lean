import Derived.Test.Qxb6627541aBase
import Derived.ProofKit
import Derived.OpenShut
import Derived.ChangeOld
import Derived.Below
import Derived.Deep.Slices
import Derived.Laws.Cover2
namespace Go.Proofs.Qxb6627541a
open Go.ChangeShapes Go.WideShapes Go.ChangeAt Go.RowKit

theorem own : ownKnob Try.prog.godebug = none := by kernel_rfl
theorem laidOut : laidOutB Try.prog = true := by kernel_rfl
theorem Try.cells24 : Try.prog.cellsOf 24 = 1 := by kernel_rfl
theorem Try.cells30 : Try.prog.cellsOf 30 = 1 := by kernel_rfl

/-- From a reading of a slice of floats to what the walks are told. -/
theorem flts_of {H : Type} {enc : TypeId × Value → H} {W : World} {a : Option Addr} {len cap : Nat} {d : DataW H} {p : List MemPlace}
    (h : DataW.Trod enc Try.prog W 0 (fun _ => true) true 22 (.slice a len cap) d p) : ∃ fs, Flts W W.heap.size a len fs := by
  obtain ⟨fuel, hf⟩ := h
  rcases Go.Deep.open_slice1 Try.underlying22 Try.cells24 hf with ⟨hcs, _⟩ | ⟨x, l, c, m, n, V, D, Pl, hcs, _, hl, hm, hz, _, hcell⟩
  · simp [Value.cells] at hcs
    obtain ⟨rfl, rfl, rfl⟩ := hcs
    exact ⟨fun _ => 0, ⟨fun h => by omega, Nat.zero_le _⟩⟩
  · simp [Value.cells] at hcs
    obtain ⟨rfl, rfl, rfl⟩ := hcs
    simp only [if_true] at hz
    subst hz
    have hV : ∀ i, i < m → ∃ b, V i = .float .f64 b := by
      intro i hi
      obtain ⟨_, h2⟩ := hcell i hi
      cases n with
      | zero => simp [DataW.trod] at h2
      | succ n =>
        cases hv : V i <;> rw [hv] at h2 <;> simp [DataW.trod, Try.underlying24] at h2
        obtain ⟨⟨rfl, _⟩, _⟩ := h2
        exact ⟨_, rfl⟩
    refine ⟨fun j => match V j with | .float .f64 b => b | _ => 0, ⟨fun h0 => ?_, Nat.le_trans hl hm⟩⟩
    obtain ⟨b, off, spot⟩ := x
    have hspot : spot = none := by simpa [Addr.add] using World.cell?_spot (hcell 0 (by omega)).1
    subst hspot
    refine ⟨b, off, rfl, World.block_lt_of_cell? _ _ (hcell 0 (by omega)).1, fun j hj => ?_⟩
    rw [← add_plain]
    obtain ⟨bb, hbb⟩ := hV j (by omega)
    rw [(hcell j (by omega)).1, hbb]

/-- .. of counts. -/
theorem nums_of {H : Type} {enc : TypeId × Value → H} {W : World} {a : Option Addr} {len cap : Nat} {d : DataW H} {p : List MemPlace}
    (h : DataW.Trod enc Try.prog W 0 (fun _ => true) true 23 (.slice a len cap) d p) : ∃ zs, Nums W W.heap.size a len zs := by
  obtain ⟨fuel, hf⟩ := h
  rcases open_ints Try.underlying23 Try.underlying30 Try.cells30 hf with ⟨hcs, _⟩ | ⟨x, l, c, zs, hcs, _, hl, hm, hz, _, hcell, hwz⟩
  · simp [Value.cells] at hcs
    obtain ⟨rfl, rfl, rfl⟩ := hcs
    exact ⟨fun _ => 0, ⟨fun j h => by omega, fun h => by omega, Nat.zero_le _⟩⟩
  · simp [Value.cells] at hcs
    obtain ⟨rfl, rfl, rfl⟩ := hcs
    simp only [if_true] at hz
    refine ⟨fun j => zs.getD j 0, ⟨fun j hj => ?_, fun h0 => ?_, Nat.le_trans hl hm⟩⟩
    · have hj' : j < zs.length := by omega
      rw [List.getD, List.getElem?_eq_getElem hj']
      have := hwz _ (List.getElem_mem hj')
      simp [Lit.wf, IntKind.min, IntKind.max] at this
      simp only [Option.getD_some]
      have hmin : IntKind.u64.min = 0 := by decide
      have hmax : IntKind.u64.max = 18446744073709551615 := by decide
      have h2 := hwz _ (List.getElem_mem hj')
      simp only [Lit.wf, Bool.and_eq_true, decide_eq_true_eq, hmin, hmax] at h2
      omega
    · obtain ⟨b, off, spot⟩ := x
      have hspot : spot = none := by simpa [Addr.add] using World.cell?_spot (hcell 0 (by omega))
      subst hspot
      refine ⟨b, off, rfl, World.block_lt_of_cell? _ _ (hcell 0 (by omega)), fun j hj => ?_⟩
      rw [← add_plain]; exact hcell j (by omega)

end Go.Proofs.Qxb6627541a
