import Derived.Test.Qxb6627578aFmtBase
import Derived.Laws.BitsAllLaws
namespace Go.Proofs.Qxb6627578aFmt
open Go.RowKit

/-- The byte z with k bits struck, from bit r on (bit 0 is the high one). -/
def clrN (z r : Nat) : Nat → Nat
  | 0 => z
  | k + 1 => clrN z r k &&& (255 - 128 / 2 ^ (r + k))
theorem clrN_lt {z : Nat} (hz : z < 256) (r : Nat) : ∀ k, clrN z r k < 256
  | 0 => hz
  | k + 1 => by
    have := clrN_lt hz r k
    unfold clrN
    exact Nat.lt_of_le_of_lt Nat.and_le_left this
theorem fact_zero : ∀ z : Fin 256, ∀ r : Fin 8, (clrN z.val r.val (8 - r.val) * 2 ^ r.val) % 256 = 0 := by decide +kernel
theorem fact_same : ∀ z : Fin 256, ∀ r : Fin 8, (clrN z.val r.val (8 - r.val) = z.val ↔ (z.val * 2 ^ r.val) % 256 = 0) := by decide +kernel

end Go.Proofs.Qxb6627578aFmt
