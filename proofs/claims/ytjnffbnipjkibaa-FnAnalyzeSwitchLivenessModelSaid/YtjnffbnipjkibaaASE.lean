/- Proved here: plain facts on the statuses that the analysis gives. No program in sight; no condition. -/
import Derived.Test.YtjnffbnipjkibaaASD
import Derived.WalkKit
import Derived.WalkSpells
import Derived.WalkLawsBesides
import Derived.Lib.Hide
import Derived.Lib.SliceRun
import Derived.Deep.RegionWith
namespace Go.Proofs.Ytjnffbnipjkibaa
open Go.RowKit
set_option linter.unusedSimpArgs false
set_option linter.unusedVariables false

section
variable (ti : Bool) (tv : Int) (ks vs : List Int) (m : Nat)
/-- The status of case k, the greatest status before it being M. -/
def sOf (M : Int) (k : Nat) : Int := if M = 1 then -1 else if kd ks k = 0 then -1 else if ti = true ∨ kd ks k = 2 then 0 else if vz vs m k = tv then 1 else -1
def mx : Nat → Int
  | 0 => -1
  | k + 1 => if mx k < sOf ti tv ks vs m (mx k) k then sOf ti tv ks vs m (mx k) k else mx k
def df : Nat → Int
  | 0 => -1
  | k + 1 => if kd ks k = 0 then (k : Int) else df k
def pr (q : Nat) : Int := sOf ti tv ks vs m (mx ti tv ks vs m q) q
def pz (n q : Nat) : Int := if (q : Int) = df ks n then -(mx ti tv ks vs m n) else pr ti tv ks vs m q
variable (bs : List Int) (p : Nat)
def fl (q : Nat) : Bool := falls (bd bs p q)
def fn (n : Nat) : Nat → Int
  | 0 => pz ti tv ks vs m n 0
  | q + 1 => if fl bs p q = true ∧ fn n q ≠ -1 then 0 else pz ti tv ks vs m n (q + 1)
theorem sOf_range (M : Int) (k : Nat) : sOf ti tv ks vs m M k = -1 ∨ sOf ti tv ks vs m M k = 0 ∨ sOf ti tv ks vs m M k = 1 := by
  unfold sOf; split <;> (try split) <;> (try split) <;> (try split) <;> simp
theorem mx_range (k : Nat) : mx ti tv ks vs m k = -1 ∨ mx ti tv ks vs m k = 0 ∨ mx ti tv ks vs m k = 1 := by
  induction k with
  | zero => left; rfl
  | succ k ih =>
    unfold mx
    split
    · exact sOf_range ti tv ks vs m _ _
    · exact ih
theorem pr_range (q : Nat) : pr ti tv ks vs m q = -1 ∨ pr ti tv ks vs m q = 0 ∨ pr ti tv ks vs m q = 1 := sOf_range ti tv ks vs m _ _
theorem pz_range (n q : Nat) : pz ti tv ks vs m n q = -1 ∨ pz ti tv ks vs m n q = 0 ∨ pz ti tv ks vs m n q = 1 := by
  unfold pz
  split
  · have := mx_range ti tv ks vs m n; omega
  · exact pr_range ti tv ks vs m q
theorem fn_range (n q : Nat) : fn ti tv ks vs m bs p n q = -1 ∨ fn ti tv ks vs m bs p n q = 0 ∨ fn ti tv ks vs m bs p n q = 1 := by
  cases q with
  | zero => exact pz_range ti tv ks vs m n 0
  | succ q =>
    unfold fn
    split
    · right; left; rfl
    · exact pz_range ti tv ks vs m n _
theorem df_range (n : Nat) : df ks n = -1 ∨ ∃ k : Nat, k < n ∧ df ks n = k ∧ kd ks k = 0 := by
  induction n with
  | zero => left; rfl
  | succ n ih =>
    unfold df
    split
    · next h => exact .inr ⟨n, by omega, rfl, h⟩
    · rcases ih with h | ⟨k, h1, h2, h3⟩
      · exact .inl h
      · exact .inr ⟨k, by omega, h2, h3⟩
/-- Has a live case before i sent the run on to q? -/
def Rc (n i q : Nat) : Prop := ∃ r, r < i ∧ fn ti tv ks vs m bs p n r ≠ -1 ∧ ∀ t, r ≤ t → t < q → fl bs p t = true
theorem rc_fn {n q : Nat} (h : Rc ti tv ks vs m bs p n (q + 1) (q + 1)) : fl bs p q = true ∧ fn ti tv ks vs m bs p n q ≠ -1 := by
  obtain ⟨r, h1, h2, h3⟩ := h
  refine ⟨h3 q (by omega) (by omega), ?_⟩
  have key : ∀ d, r + d ≤ q → fn ti tv ks vs m bs p n (r + d) ≠ -1 := by
    intro d
    induction d with
    | zero => intro _; exact h2
    | succ d ih =>
      intro hd
      have := ih (by omega)
      show fn ti tv ks vs m bs p n ((r + d) + 1) ≠ -1
      unfold fn
      rw [if_pos ⟨h3 (r + d) (by omega) (by omega), this⟩]
      omega
  have := key (q - r) (by omega)
  rwa [show r + (q - r) = q by omega] at this
/-- The status of q when the cases before i have been gone through. -/
noncomputable def at_ (n i q : Nat) : Int := open Classical in if q < i then fn ti tv ks vs m bs p n q else if Rc ti tv ks vs m bs p n i q then 0 else pz ti tv ks vs m n q
theorem at_self (n i : Nat) : at_ ti tv ks vs m bs p n i i = fn ti tv ks vs m bs p n i := by
  unfold at_
  rw [if_neg (by omega)]
  cases i with
  | zero =>
    rw [if_neg (by rintro ⟨r, h, _⟩; omega)]
    rfl
  | succ q =>
    by_cases h : Rc ti tv ks vs m bs p n (q + 1) (q + 1)
    · rw [if_pos h]
      unfold fn
      rw [if_pos (rc_fn ti tv ks vs m bs p h)]
    · rw [if_neg h]
      unfold fn
      rw [if_neg (by
        rintro ⟨h1, h2⟩
        exact h ⟨q, by omega, h2, fun t ht ht2 => by rw [show t = q by omega]; exact h1⟩)]
/-- The next case is dead: nothing changes. -/
theorem at_dead (n i q : Nat) (h : fn ti tv ks vs m bs p n i = -1) : at_ ti tv ks vs m bs p n (i + 1) q = at_ ti tv ks vs m bs p n i q := by
  by_cases hq : q < i
  · unfold at_; rw [if_pos (by omega), if_pos hq]
  · by_cases hq2 : q = i
    · subst hq2
      rw [at_self]
      unfold at_; rw [if_pos (by omega)]
    · unfold at_
      rw [if_neg (by omega), if_neg hq]
      have e : Rc ti tv ks vs m bs p n (i + 1) q ↔ Rc ti tv ks vs m bs p n i q := by
        constructor
        · rintro ⟨r, h1, h2, h3⟩
          refine ⟨r, ?_, h2, h3⟩
          by_cases e : r = i
          · subst e; exact absurd h h2
          · omega
        · rintro ⟨r, h1, h2, h3⟩
          exact ⟨r, by omega, h2, h3⟩
      by_cases hR : Rc ti tv ks vs m bs p n i q
      · rw [if_pos (e.2 hR), if_pos hR]
      · rw [if_neg (fun h => hR (e.1 h)), if_neg hR]
/-- The next case lives: the cases behind it, as far as one falls into the next, are unknown. -/
theorem at_live (n i j q : Nat) (h : fn ti tv ks vs m bs p n i ≠ -1) (hj : i < j) (hf : ∀ t, i ≤ t → t + 1 < j → fl bs p t = true) (hs : q < j ∨ fl bs p (j - 1) = false) (hqi : i < q) : at_ ti tv ks vs m bs p n (i + 1) q = if q < j then 0 else at_ ti tv ks vs m bs p n i q := by
  have q1 : ¬ q < i + 1 := by omega
  have q2 : ¬ q < i := by omega
  unfold at_
  rw [if_neg q1]
  by_cases hq : q < j
  · have hR : Rc ti tv ks vs m bs p n (i + 1) q := ⟨i, by omega, h, fun t ht ht2 => hf t ht (by omega)⟩
    rw [if_pos hq, if_pos hR]
  · have hs' : fl bs p (j - 1) = false := hs.resolve_left hq
    have no : ∀ r, r < i + 1 → ¬ ∀ t, r ≤ t → t < q → fl bs p t = true := fun r hr hall => by
      have := hall (j - 1) (by omega) (by omega)
      rw [hs'] at this
      cases this
    have n1 : ¬ Rc ti tv ks vs m bs p n (i + 1) q := fun ⟨r, h1, h2, h3⟩ => no r h1 h3
    have n2 : ¬ Rc ti tv ks vs m bs p n i q := fun ⟨r, h1, h2, h3⟩ => no r (by omega) h3
    rw [if_neg hq, if_neg q2, if_neg n1, if_neg n2]
end
end Go.Proofs.Ytjnffbnipjkibaa
