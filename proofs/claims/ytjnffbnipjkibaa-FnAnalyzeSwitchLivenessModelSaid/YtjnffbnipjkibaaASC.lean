/- Proved here: what CheckEqualityIfNoSideEffects answers at numbers and identifiers. Conditions: the cells, as stated. -/
import Derived.Test.YtjnffbnipjkibaaASA
import Derived.WalkKit
import Derived.WalkSpells
import Derived.WalkLawsBesides
import Derived.Lib.Hide
import Derived.Lib.SliceRun
import Derived.Deep.RegionWith
import Derived.OwnWalk
import Derived.Laws.OwnMore
import Derived.BigQuiet
import Derived.Deep.QuietTactic
namespace Go.Proofs.Ytjnffbnipjkibaa
open Go.RowKit
set_option linter.unusedSimpArgs false
set_option linter.unusedVariables false

def fEq (i j : Nat) : Bool := (FloatKind.f64.format.order (floatOfInt .f64 ((i : Int) - 128)) (floatOfInt .f64 ((j : Int) - 128)) == some .eq) == decide (i = j)
def fAll : Bool := (List.range 256).all fun i => (List.range 256).all fun j => fEq i j
theorem fAll_yes : fAll = true := by kernel_rfl
theorem feq (a b : Int) (ha : -128 ≤ a ∧ a ≤ 127) (hb : -128 ≤ b ∧ b ≤ 127) : (FloatKind.f64.format.order (floatOfInt .f64 a) (floatOfInt .f64 b) == some .eq) = decide (a = b) := by
  have h := fAll_yes
  simp only [fAll, List.all_eq_true, List.mem_range] at h
  have h1 := h (a + 128).toNat (by omega) (b + 128).toNat (by omega)
  have e1 : (((a + 128).toNat : Nat) : Int) - 128 = a := by omega
  have e2 : (((b + 128).toNat : Nat) : Int) - 128 = b := by omega
  simp only [fEq, e1, e2, beq_iff_eq] at h1
  rw [h1]
  exact decide_eq_decide.2 ⟨fun h => by omega, fun h => by omega⟩
end Go.Proofs.Ytjnffbnipjkibaa
