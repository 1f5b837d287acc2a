/- Proved here: the contract of IsBinaryNullAndUndefined on two binary expressions, case by case (part NA). Conditions: the nodes' cells, as stated. -/
import Derived.Test.YtonhekaakddneaaRRRMsn
import Derived.WalkKit
import Derived.WalkSpells
import Derived.WalkLawsBesides
import Derived.Lib.Hide
import Derived.Deep.QuietTactic
import Derived.BigQuiet
import Derived.Deep.DeepCutAuto
namespace Go.Proofs.YtonhekaakddneaaRRR.fnIsBinaryNullAndUndefinedExactShape
open Go.RowKit
set_option linter.unusedSimpArgs false
set_option linter.unusedVariables false

/-- A local variable of the type Expr at block x that holds v at location 0. -/
def Var (w : World) (x : Nat) (v : Value) : Prop :=
  w.cell? ⟨x, 0, none⟩ = some v ∧ w.cell? ⟨x, 1, none⟩ = some (.int .i32 0) ∧ w.frozen? ⟨x, 0, none⟩ = false ∧ w.frozen? ⟨x, 1, none⟩ = false
theorem Var.below {w w' : World} {x B : Nat} {v : Value} (h : Var w x v) (hb : Below B w w') (hx : x < B) : Var w' x v :=
  ⟨(hb.cell (p := ⟨x, 0, none⟩) hx).trans h.1, (hb.cell (p := ⟨x, 1, none⟩) hx).trans h.2.1, (hb.frozen (p := ⟨x, 0, none⟩) hx).trans h.2.2.1, (hb.frozen (p := ⟨x, 1, none⟩) hx).trans h.2.2.2⟩
theorem Bin.below {w w' : World} {x : Nat} {L R : Value} {l r op : Int} (h : Bin w x L l R r op) (hb : Below w.heap.size w w') : Bin w' x L l R r op :=
  ⟨kept hb h.1, kept hb h.2.1, kept hb h.2.2.1, kept hb h.2.2.2.1, kept hb h.2.2.2.2⟩
/-- Two new variables stand behind slots s and t. -/
def Two (W : World) (v1 v2 : Value) (s t : Value) (wx : World) : Prop := ∃ x y : Nat, s = .pointer (some ⟨x, 0, none⟩) ∧ t = .pointer (some ⟨y, 0, none⟩) ∧ Var wx x v1 ∧ Var wx y v2 ∧ x ≠ y ∧ W.heap.size ≤ x ∧ W.heap.size ≤ y ∧ x < wx.heap.size ∧ y < wx.heap.size ∧ Below W.heap.size W wx
end Go.Proofs.YtonhekaakddneaaRRR.fnIsBinaryNullAndUndefinedExactShape
