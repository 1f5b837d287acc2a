/- Proved here: what is told of a slice of floats, and of a slice of slices of integers, that came in. Conditions as stated. -/
import Derived.Test.YtjlmaingeobgeaaDoorBase
import Derived.Laws.Cover2
import Derived.Deep.Slices
import Derived.Deep.Matrix
namespace Go.Proofs.YtjlmaingeobgeaaDoor
open Go.RowKit Go.ChangeShapes
set_option linter.unusedVariables false

def IsFloats (k : FloatKind) (w : World) (a : Option Addr) (len cap : Nat) (zs : List Nat) : Prop :=
  (a = none ∧ len = 0 ∧ cap = 0 ∧ zs = []) ∨
  ∃ x, a = some x ∧ len ≤ cap ∧ cap ≤ maxLen ∧ zs.length = cap ∧ (∀ i, i < zs.length → w.cell? (x.add i) = some (.float k (zs.getD i 0))) ∧ ∀ n ∈ zs, (Lit.float k n).wf = true
def IsRows (k : IntKind) (w : World) (a : Option Addr) (len cap : Nat) (A : Nat → Option Addr) (L C : Nat → Nat) (Z : Nat → List Int) : Prop :=
  (a = none ∧ len = 0 ∧ cap = 0) ∨
  ∃ x, a = some x ∧ len ≤ cap ∧ cap ≤ maxLen ∧ ∀ r, r < cap → w.cell? (x.add r) = some (.slice (A r) (L r) (C r)) ∧ IsRow k w (A r) (L r) (C r) (Z r)
section
variable {H : Type} {enc : TypeId × Value → H} {P : Program} {w : World} {base : Nat} {held : Bool}
theorem float_of_trod {k : FloatKind} {e : TypeId} {n : Nat} {v : Value} {spare : Nat → Bool} {x : DataW H × List MemPlace} (he : P.underlying e = some (.float k)) (h : DataW.trod enc P w base spare held n e [v] = some x) : ∃ b, v = .float k b ∧ (Lit.float k b).wf = true := by
  cases n with
  | zero => simp [DataW.trod] at h
  | succ n =>
    cases v <;> simp only [DataW.trod, he] at h
    all_goals first | (cases h; done) | skip
    rename_i k' b
    by_cases hw : k' = k ∧ (Lit.float k b).wf = true
    · obtain ⟨rfl, hw⟩ := hw
      exact ⟨b, rfl, hw⟩
    · rw [if_neg hw] at h
      cases h
theorem open_floats {t e : TypeId} {k : FloatKind} {fuel : Nat} {a : Option Addr} {len cap : Nat} {x : DataW H × List MemPlace} (ht : P.underlying t = some (.slice e)) (he : P.underlying e = some (.float k)) (hc : P.cellsOf e = 1)
    (h : DataW.trod enc P w base (fun _ => true) held fuel t [.slice a len cap] = some x) : ∃ zs, IsFloats k w a len cap zs := by
  rcases Go.Deep.open_slice1 ht hc h with ⟨hcs, _⟩ | ⟨x, l, c, m, n, V, D, Pl, hcs, _, hl, hm, hmm, _, hcell⟩
  · simp at hcs
    obtain ⟨rfl, rfl, rfl⟩ := hcs
    exact ⟨[], .inl ⟨rfl, rfl, rfl, rfl⟩⟩
  · simp at hcs
    obtain ⟨rfl, rfl, rfl⟩ := hcs
    simp only [if_true] at hmm
    subst hmm
    have hv : ∀ i, i < m → V i = .float k (match V i with | .float _ b => b | _ => 0) ∧ (Lit.float k (match V i with | .float _ b => b | _ => 0)).wf = true := fun i hi => by
      obtain ⟨b, e, hw⟩ := float_of_trod he (hcell i hi).2
      rw [e]
      exact ⟨rfl, hw⟩
    refine ⟨(List.range m).map (fun i => match V i with | .float _ b => b | _ => 0), .inr ⟨x, rfl, hl, hm, by simp, fun i hi => ?_, fun n hn => ?_⟩⟩
    · have hi' : i < m := by simpa using hi
      rw [(hcell i hi').1, (hv i hi').1]
      simp [List.getD, hi']
    · obtain ⟨i, hi, rfl⟩ := List.mem_map.1 hn
      exact (hv i (by simpa using hi)).2
theorem open_rows {t e q : TypeId} {k : IntKind} {fuel : Nat} {a : Option Addr} {len cap : Nat} {x : DataW H × List MemPlace} (ht : P.underlying t = some (.slice e)) (he : P.underlying e = some (.slice q)) (hq : P.underlying q = some (.int k))
    (ce : P.cellsOf e = 1) (cq : P.cellsOf q = 1) (h : DataW.trod enc P w base (fun _ => true) held fuel t [.slice a len cap] = some x) : ∃ A L C Z, IsRows k w a len cap A L C Z := by
  rcases Go.Deep.open_int_rows ht he hq ce cq h with ⟨hcs, _⟩ | ⟨x, l, c, A, L, C, Z, hcs, _, hl, hm, _, hcell⟩
  · simp at hcs
    obtain ⟨rfl, rfl, rfl⟩ := hcs
    exact ⟨fun _ => none, fun _ => 0, fun _ => 0, fun _ => [], .inl ⟨rfl, rfl, rfl⟩⟩
  · simp at hcs
    obtain ⟨rfl, rfl, rfl⟩ := hcs
    refine ⟨A, L, C, Z, .inr ⟨x, rfl, hl, hm, fun r hr => ?_⟩⟩
    obtain ⟨h1, h2, h3, h4, h5, h6, h7⟩ := hcell r hr
    refine ⟨h1, ?_⟩
    cases hA : A r with
    | none =>
      have := h6 hA
      exact .inl ⟨rfl, by omega, this, List.eq_nil_of_length_eq_zero (by omega)⟩
    | some y => exact .inr ⟨y, rfl, h2, h3, h4, fun i hi => (h7 y hA).2 i (by omega), h5⟩
end
end Go.Proofs.YtjlmaingeobgeaaDoor
