/- Proved here: what a slice of structs of one-cell fields is in memory, and that an argument of that kind is so. No condition beyond those stated. -/
import Derived.Test.YtjcblmbndkacgaaBase
import Derived.WalkKit
import Derived.Deep.Slices
import Derived.Deep.Fields
import Derived.ChangeSame
namespace Go.Proofs.Ytjcblmbndkacgaa
open Go.RowKit
set_option linter.unusedVariables false

def KInt (k : IntKind) (v : Value) : Prop := ∃ n, v = .int k n ∧ (Lit.int k n).wf = true
def KBool (v : Value) : Prop := ∃ b, v = .bool b
/-- The slice's element i has the field j at cell i * (number of fields) + j, of the kind that sig says. -/
def IsRecs (w : World) (a : Option Addr) (len cap : Nat) (sig : List (Value → Prop)) : Prop :=
  (a = none ∧ len = 0 ∧ cap = 0) ∨ ∃ x, a = some x ∧ len ≤ cap ∧ cap ≤ maxLen ∧ ∀ i, i < len → ∀ j p, sig[j]? = some p → ∃ v, w.cell? (x.add (i * sig.length + j)) = some v ∧ p v
theorem IsRecs.below {w w' : World} {a : Option Addr} {len cap : Nat} {sig : List (Value → Prop)} (h : IsRecs w a len cap sig) (hb : Below w.heap.size w w') : IsRecs w' a len cap sig := by
  rcases h with h | ⟨x, e, hl, hm, hc⟩
  · exact .inl h
  · refine .inr ⟨x, e, hl, hm, fun i hi j p hp => ?_⟩
    obtain ⟨v, hv, hpv⟩ := hc i hi j p hp
    refine ⟨v, ?_, hpv⟩
    rw [hb.cell (World.block_lt_of_cell? _ _ hv)]
    exact hv
section
open Go.ChangeShapes Go.WideShapes Go.Deep
variable {H : Type} {enc : TypeId × Value → H} {P : Program} {w : World} {base : Nat} {spare : Nat → Bool} {held : Bool}
theorem kint_of {t : TypeId} {k : IntKind} (ht : P.underlying t = some (.int k)) {n : Nat} {v : Value} {y : DataW H × List MemPlace} (h : DataW.trod enc P w base spare held n t [v] = some y) : KInt k v := by
  obtain ⟨m, hv, _, hw⟩ := DataW.trod_int ht h
  simp only [List.cons.injEq, and_true] at hv
  exact ⟨m, hv, hw⟩
theorem kbool_of {t : TypeId} (ht : P.underlying t = some .bool) {n : Nat} {v : Value} {y : DataW H × List MemPlace} (h : DataW.trod enc P w base spare held n t [v] = some y) : KBool v := by
  obtain ⟨b, hv, _⟩ := DataW.trod_bool ht h
  simp only [List.cons.injEq, and_true] at hv
  exact ⟨b, hv⟩
/-- What is to be asked of each field's reading, along the list of fields. -/
def Reads (P : Program) (enc : TypeId × Value → H) (w : World) (base : Nat) (spare : Nat → Bool) (held : Bool) (fs : Array Field) (sig : List (Value → Prop)) : Prop :=
  ∀ (j : Nat) (f : Field) (p : Value → Prop), fs[j]? = some f → sig[j]? = some p → ∀ (n : Nat) (v : Value) (y : DataW H × List MemPlace), DataW.trod enc P w base spare held n f.type [v] = some y → p v
theorem open_recs {t e : TypeId} {fs : Array Field} {fuel : Nat} {cs : List Value} {x : DataW H × List MemPlace} (ht : P.underlying t = some (.slice e)) (he : P.underlying e = some (.struct fs)) (hone : oneCellFields P fs = true) (hC : P.cellsOf e = fs.size)
    (sig : List (Value → Prop)) (hs : sig.length = fs.size) (hk : Reads P enc w base spare held fs sig) (h : DataW.trod enc P w base spare held fuel t cs = some x) : ∃ a len cap, cs = [.slice a len cap] ∧ IsRecs w a len cap sig := by
  rcases open_slice ht h with ⟨h0, _⟩ | ⟨a, len, cap, m, n, D, Pl, hcs, _, hl, hm, hmm, _, hi⟩
  · exact ⟨none, 0, 0, h0, .inl ⟨rfl, rfl, rfl⟩⟩
  · refine ⟨some a, len, cap, hcs, .inr ⟨a, rfl, hl, hm, fun i him j p hp => ?_⟩⟩
    have hle : len ≤ m := by rw [hmm]; split <;> omega
    obtain ⟨cs', hc, hr⟩ := hi i (by omega)
    rw [hC] at hc
    obtain ⟨ys, n', _, _, hcl, hyl, hf⟩ := DataW.trod_struct he hr
    obtain ⟨_, hlen, hat⟩ := World.cells?_some hc
    have hj : j < fs.size := by rw [← hs]; exact (List.getElem?_eq_some_iff.1 hp).1
    have hfj : fs[j]? = some fs[j] := Array.getElem?_eq_getElem hj
    obtain ⟨ho, h1⟩ := hone_of hone j _ hfj
    have hq := hf j _ hfj
    rw [ho, h1, take1_drop cs' j (.bool false) (by omega), List.getElem?_eq_getElem (by omega)] at hq
    refine ⟨cs'.getD j (.bool false), ?_, hk j _ p hfj hp _ _ _ hq⟩
    have hcell := hat j hj
    rw [hs, ← Go.Deep.add_add, hcell]
    simp [List.getD, show j < cs'.length by omega]
end
end Go.Proofs.Ytjcblmbndkacgaa
