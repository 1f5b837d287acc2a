/- Proved here: which indices keep a hash; the checker's frame. Conditions as stated. -/
import Derived.Test.YtjlmaingeobgeaaDoorDKC
import Derived.WalkKit
import Derived.WalkSpells
import Derived.WalkLawsBesides
import Derived.Lib.Hide
import Derived.Lib.SliceRun
import Derived.Deep.RegionWith
import Derived.OwnWalk
import Derived.Laws.OwnMore
namespace Go.Proofs.YtjlmaingeobgeaaDoor
open Go.RowKit
set_option linter.unusedSimpArgs false
set_option linter.unusedVariables false

/-- The indices below k that are the first of their hash. -/
def nb (f : Nat → Nat) : Nat → List Nat
  | 0 => []
  | k + 1 => if (nb f k).any (fun i => f i == f k) then nb f k else nb f k ++ [k]
theorem nb_len (f : Nat → Nat) : ∀ k, (nb f k).length ≤ k
  | 0 => Nat.le_refl _
  | k + 1 => by
    have := nb_len f k
    simp only [nb]
    split
    · omega
    · simp; omega
theorem push_fst {f : Nat → Nat} {its : List (Nat × Nat)} {k q : Nat} (h : its.map Prod.fst = nb f k) : (push f its k q).map Prod.fst = nb f (k + 1) := by
  have hh : hit f its k = (nb f k).any (fun i => f i == f k) := by rw [← h, List.any_map]; rfl
  unfold push
  simp only [nb]
  rw [hh]
  split
  · exact h
  · simp [h]
theorem push_mem {f : Nat → Nat} {its : List (Nat × Nat)} {k q : Nat} {x : Nat × Nat} (h : x ∈ push f its k q) : x ∈ its ∨ x = (k, q) := by
  unfold push at h
  split at h
  · exact .inl h
  · rcases List.mem_append.1 h with h | h
    · exact .inl h
    · exact .inr (by simpa using h)
theorem atNe {w : World} {B : Nat} {e t : TypeId} {sz : Nat} {v : Value} {n : Nat} {xs : List Value} {r : Nat} {cs : Array Value} (h : w.ownsRow B e sz v n xs) (ha : At w r t cs) (he : e ≠ t) : v.ownBlock ≠ some r := by
  obtain ⟨_, ⟨rfl, _⟩ | ⟨g, cap, cur, rfl, _, hg, _⟩⟩ := h
  · simp [Value.ownBlock]
  · intro e1
    simp [Value.ownBlock] at e1
    subst e1
    unfold At at ha
    rw [hg] at ha
    simp at ha
    exact he ha.2
theorem CK.below {w w' : World} {lo D : Nat} {v : Value} {its : List (Nat × Nat)} {f : Nat → Nat} {T : Nat} (h : CK w lo D v its f T) (hb : Below w.heap.size w w') : CK w' lo D v its f T := by
  obtain ⟨cs, bs, h1, h2⟩ := h.bits
  refine ⟨h.low, ⟨cs, bs, h1.below hb h1.lt, h2⟩, ownKeep h.row (fun x hx => hb.block x ?_), h.ne⟩
  obtain ⟨_, ⟨e1, _⟩ | ⟨g1, cap1, cur, e1, h1, h2, _⟩⟩ := h.row
  · rw [e1] at hx; simp [Value.ownBlock] at hx
  · rw [e1] at hx; simp [Value.ownBlock] at hx; rw [← hx]; exact (Array.getElem?_eq_some_iff.1 h2).1
theorem CK.cells {w : World} {lo D : Nat} {v : Value} {its : List (Nat × Nat)} {f : Nat → Nat} {T : Nat} (h : CK w lo D v its f T) : ∃ a c, v = .slice a its.length c ∧ w.cell? ⟨D, 0, none⟩ = some (.slice a its.length c) ∧ ∀ (j : Nat) (x : Nat × Nat), its[j]? = some x → ∃ g, a = some ⟨g, 0, none⟩ ∧ ∀ t, t < 3 → w.cell? ⟨g, j * 3 + t, none⟩ = (item T f x)[t]? := by
  obtain ⟨a, c, rfl⟩ := h.shape
  obtain ⟨cs, bs, h1, h2, _⟩ := h.bits
  refine ⟨a, c, rfl, by rw [h1.cell]; exact h2, fun j x hx => ?_⟩
  have hj : j < its.length := (List.getElem?_eq_some_iff.1 hx).1
  obtain ⟨hl, ⟨e1, e2⟩ | ⟨g, cap, cur, e1, h3, h4, h5⟩⟩ := id h.row
  · exact absurd e2 (by omega)
  · simp only [Value.slice.injEq] at e1
    obtain ⟨rfl, _, rfl⟩ := e1
    refine ⟨g, rfl, fun t ht => ?_⟩
    rw [World.ownsRow.cellAt h.row (j * 3 + t) (by omega)]
    exact rows_get T f its j t x hx ht
theorem info39 : (Tryd.prog.info? 39).map (fun i => (i.zero, i.size, i.bytes)) = some (some (.int .u32 0), 1, 4) := by kernel_rfl
end Go.Proofs.YtjlmaingeobgeaaDoor
