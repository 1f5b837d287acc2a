/- Proved here: the plain law under FnEnsureValidIdentifierMatchesWordModel: one fold over the bytes, and how it steps at letters, digits and all other bytes. No condition. -/
import Derived.Laws.RangeAny
import Derived.Lib.DecodeN
import Derived.Lib.MapLaws
import Derived.Lib.OthersKept
import Derived.Laws.AppendOwn
import Derived.Laws.BytesArg
namespace Go.Proofs.YtoblkmnhoiodcaaDoor
set_option linter.unusedVariables false
set_option linter.unusedSimpArgs false

def isL (c : Int) : Bool := (decide (97 ≤ c) && decide (c ≤ 122)) || (decide (65 ≤ c) && decide (c ≤ 90))
def isD (c : Int) : Bool := decide (48 ≤ c) && decide (c ≤ 57)
def isA (c : Int) : Bool := isL c || isD c
def cls (c : Int) (out : List Int) : Bool := isL c || (!out.isEmpty && isD c)
def gp (g : Bool) : List Int := if g then [95] else []
def stp (st : List Int × Bool) (c : Int) : List Int × Bool := if cls c st.1 then (st.1 ++ gp st.2 ++ [c], false) else (st.1, !st.1.isEmpty)
def F (b : Nat → Int) : Nat → List Int × Bool
  | 0 => ([], false)
  | k + 1 => stp (F b k) (b k)
def bAt (s : ByteArray) (k : Nat) : Int := ((s.get! k).toNat : Int)
theorem F_succ (b : Nat → Int) (k : Nat) : F b (k + 1) = stp (F b k) (b k) := rfl
theorem stp_len (st : List Int × Bool) (c : Int) : (stp st c).1.length ≤ st.1.length + 2 := by
  unfold stp gp
  split <;> (try split) <;> simp <;> omega
theorem F_len (b : Nat → Int) (k : Nat) : (F b k).1.length ≤ 2 * k := by
  induction k with
  | zero => simp [F]
  | succ k ih => have := stp_len (F b k) (b k); rw [F_succ]; omega
theorem stp_ne {st : List Int × Bool} (c : Int) (h : st.1 ≠ []) : (stp st c).1 ≠ [] := by
  unfold stp
  split
  · simp
  · exact h
theorem F_ne {b : Nat → Int} {k : Nat} (h : (F b k).1 ≠ []) (m : Nat) : (F b (k + m)).1 ≠ [] := by
  induction m with
  | zero => exact h
  | succ m ih => exact stp_ne _ ih
theorem F_letter {b : Nat → Int} {k : Nat} (h : isL (b k) = true) : (F b (k + 1)).1 ≠ [] := by
  rw [F_succ]; unfold stp cls; rw [h]; simp
theorem F_yes {b : Nat → Int} {k : Nat} (h : cls (b k) (F b k).1 = true) : F b (k + 1) = ((F b k).1 ++ gp (F b k).2 ++ [b k], false) := by
  rw [F_succ]; unfold stp; rw [if_pos h]
theorem F_no {b : Nat → Int} {k : Nat} (h : cls (b k) (F b k).1 = false) : F b (k + 1) = ((F b k).1, !(F b k).1.isEmpty) := by
  rw [F_succ]; unfold stp; rw [if_neg (by rw [h]; simp)]
theorem high_no {c : Int} (h : 128 ≤ c) (out : List Int) : cls c out = false := by
  have a1 : ¬ c ≤ 122 := by omega
  have a2 : ¬ c ≤ 90 := by omega
  have a3 : ¬ c ≤ 57 := by omega
  simp [cls, isL, isD, a1, a2, a3]
theorem F_high {b : Nat → Int} {k : Nat} (m : Nat) (h : ∀ j, k ≤ j → j < k + (m + 1) → 128 ≤ b j) : F b (k + (m + 1)) = ((F b k).1, !(F b k).1.isEmpty) := by
  induction m with
  | zero => exact F_no (high_no (h k (by omega) (by omega)) _)
  | succ m ih =>
    have e := ih (fun j h1 h2 => h j h1 (by omega))
    have n := F_no (b := b) (k := k + (m + 1)) (high_no (h _ (by omega) (by omega)) _)
    rw [e] at n
    exact n
theorem F_pre {b : Nat → Int} {k : Nat} (h : ∀ j, j < k → isL (b j) = false) : F b k = ([], false) := by
  induction k with
  | zero => rfl
  | succ k ih =>
    have e := ih (fun j hj => h j (by omega))
    rw [F_no (by rw [e]; simp [cls, h k (by omega)]), e]
    rfl
theorem F_skip {b : Nat → Int} {k : Nat} (m : Nat) (h : ∀ j, k ≤ j → j < k + (m + 1) → isA (b j) = false) : F b (k + (m + 1)) = ((F b k).1, !(F b k).1.isEmpty) := by
  have no : ∀ c out, isA c = false → cls c out = false := by
    intro c out hc
    simp only [isA, Bool.or_eq_false_iff] at hc
    simp [cls, hc.1, hc.2]
  induction m with
  | zero => exact F_no (no _ _ (h k (by omega) (by omega)))
  | succ m ih =>
    have e := ih (fun j h1 h2 => h j h1 (by omega))
    have n := F_no (b := b) (k := k + (m + 1)) (no _ _ (h _ (by omega) (by omega)))
    rw [e] at n
    exact n
/-- What the decoding of a rune at pos gives: an ASCII byte alone, or a run of bytes of 128 and more. -/
theorem decode_two (s : ByteArray) (pos : Nat) (h : pos < s.size) :
    (0 ≤ bAt s pos ∧ bAt s pos < 128 ∧ Utf8.decode s pos = ((bAt s pos).toNat, 1)) ∨
    (∃ m, 128 ≤ (Utf8.decode s pos).1 ∧ (Utf8.decode s pos).2 = m + 1 ∧ pos + (m + 1) ≤ s.size ∧ ∀ j, pos ≤ j → j < pos + (m + 1) → 128 ≤ bAt s j) := by
  have hd := Lib.decode_at s pos
  have k0 := (s.get! pos).toNat_lt
  by_cases c : (s.get! pos).toNat < 128
  · left
    refine ⟨by unfold bAt; omega, by unfold bAt; omega, ?_⟩
    rw [hd, Lib.decodeN_ascii _ _ _ _ _ c]
    unfold bAt
    simp
  · right
    rcases Lib.decodeN_shape (s.size - pos) (s.get! pos).toNat (s.get! (pos + 1)).toNat (s.get! (pos + 2)).toNat (s.get! (pos + 3)).toNat with ⟨h1, _⟩ | ⟨h1, h2, h3, h4, e⟩ | ⟨h1, h2, h3, h4, h5, h6, e⟩ | ⟨h1, h2, h3, h4, h5, h6, h7, e⟩ | e
    · omega
    · refine ⟨1, ?_, ?_, by omega, ?_⟩
      · rw [hd, e]; exact h4
      · rw [hd, e]
      · intro j j1 j2
        have hj : j = pos ∨ j = pos + 1 := by omega
        unfold bAt
        rcases hj with rfl | rfl <;> omega
    · refine ⟨2, ?_, ?_, by omega, ?_⟩
      · rw [hd, e]; show 128 ≤ _; omega
      · rw [hd, e]
      · intro j j1 j2
        have hj : j = pos ∨ j = pos + 1 ∨ j = pos + 2 := by omega
        unfold bAt
        rcases hj with rfl | rfl | rfl <;> omega
    · refine ⟨3, ?_, ?_, by omega, ?_⟩
      · rw [hd, e]; show 128 ≤ _; omega
      · rw [hd, e]
      · intro j j1 j2
        have hj : j = pos ∨ j = pos + 1 ∨ j = pos + 2 ∨ j = pos + 3 := by omega
        unfold bAt
        rcases hj with rfl | rfl | rfl | rfl <;> omega
    · refine ⟨0, ?_, ?_, by omega, ?_⟩
      · rw [hd, e]; show 128 ≤ 65533; omega
      · rw [hd, e]
      · intro j j1 j2
        obtain rfl : j = pos := by omega
        unfold bAt
        omega
theorem F_gap {b : Nat → Int} {k : Nat} {out : List Int} (h : F b k = (out, true)) : out ≠ [] := by
  cases k with
  | zero => simp [F] at h
  | succ k =>
    rw [F_succ] at h
    unfold stp at h
    split at h
    · simp at h
    · simp only [Prod.mk.injEq] at h
      obtain ⟨h1, h2⟩ := h
      subst h1
      simpa using h2
/-- One round of the range over the string: the rune r, the next place p. -/
theorem round_two (s : ByteArray) (pos : Nat) (h : pos < s.size) {out : List Int} {g : Bool} (hF : F (bAt s) pos = (out, g)) : ∃ (r : Int) (p : Nat), r = ((Utf8.decode s pos).1 : Int) ∧ p = pos + (Utf8.decode s pos).2 ∧ 0 ≤ r ∧ r ≤ 2147483647 ∧ pos < p ∧ p ≤ s.size ∧
    ((cls r out = true ∧ r < 128 ∧ F (bAt s) p = (out ++ gp g ++ [r], false)) ∨ (cls r out = false ∧ F (bAt s) p = (out, !out.isEmpty))) := by
  have hle := decode_le s pos
  refine ⟨_, _, rfl, rfl, by omega, by omega, ?_⟩
  rcases decode_two s pos h with ⟨h0, h1, e⟩ | ⟨m, h1, e, h2, h3⟩
  · have e1 : ((Utf8.decode s pos).1 : Int) = bAt s pos := by rw [e]; simp only; omega
    have e2 : (Utf8.decode s pos).2 = 1 := by rw [e]
    rw [e1, e2]
    refine ⟨by omega, by omega, ?_⟩
    cases hc : cls (bAt s pos) out
    · have := F_no (b := bAt s) (k := pos) (by rw [hF]; exact hc)
      rw [hF] at this
      exact .inr ⟨rfl, this⟩
    · have := F_yes (b := bAt s) (k := pos) (by rw [hF]; exact hc)
      rw [hF] at this
      exact .inl ⟨rfl, h1, this⟩
  · rw [e]
    have := F_high (b := bAt s) m h3
    rw [hF] at this
    exact ⟨by omega, h2, .inr ⟨high_no (by omega) _, this⟩⟩
theorem cls_yes {r : Int} {out : List Int} (h : cls r out = true) : (97 ≤ r ∧ r ≤ 122) ∨ (65 ≤ r ∧ r ≤ 90) ∨ (48 ≤ r ∧ r ≤ 57 ∧ out ≠ []) := by
  simp only [cls, isL, isD, Bool.or_eq_true, Bool.and_eq_true, decide_eq_true_eq] at h
  rcases h with (h | h) | ⟨h1, h2⟩
  · exact .inl h
  · exact .inr (.inl h)
  · exact .inr (.inr ⟨h2.1, h2.2, by simpa using h1⟩)
theorem cls_no {r : Int} {out : List Int} (h : cls r out = false) : (122 < r ∨ (90 < r ∧ r < 97) ∨ (57 < r ∧ r < 65) ∨ r < 48) ∨ (out = [] ∧ 48 ≤ r ∧ r ≤ 57) := by
  simp only [cls, isL, isD, Bool.or_eq_false_iff, Bool.and_eq_false_iff, decide_eq_false_iff_not] at h
  obtain ⟨⟨h1, h2⟩, h3⟩ := h
  by_cases c : 48 ≤ r ∧ r ≤ 57
  · right
    refine ⟨?_, c⟩
    rcases h3 with h3 | h3
    · simpa using h3
    · omega
  · left; omega
def res (s : ByteArray) : ByteArray := if (F (bAt s) s.size).1 = [] then ⟨#[95]⟩ else strOfNums (F (bAt s) s.size).1
theorem res_nil {s : ByteArray} (h : (F (bAt s) s.size).1 = []) : res s = ⟨#[95]⟩ := if_pos h
theorem res_some {s : ByteArray} (h : (F (bAt s) s.size).1 ≠ []) : res s = strOfNums (F (bAt s) s.size).1 := if_neg h
end Go.Proofs.YtoblkmnhoiodcaaDoor
