/- Proved here: flatten on the whole tree, and small contracts. Conditions as stated. -/
import Derived.Test.YtjlmaingeobgeaaDoorRJB
import Derived.Test.YtjlmaingeobgeaaDoorRJE
import Derived.Test.YtjlmaingeobgeaaDoorRJG
import Derived.WalkKit
import Derived.WalkSpells
import Derived.WalkLawsBesides
import Derived.Lib.Hide
import Derived.Lib.SliceRun
import Derived.Deep.RegionWith
import Derived.OwnWalk
import Derived.Laws.OwnMore
import Derived.BigRegion
import Derived.Carry
namespace Go.Proofs.YtjlmaingeobgeaaDoor
open Go.RowKit
set_option linter.unusedSimpArgs false
set_option linter.unusedVariables false

def itsT (N : Nat) (L : Nat → Int) (k : Nat) : List Int := if k < N then [L (2 + k)] else if k = N then (L (N + 2) :: L (N + 3) :: ([L (N + 4)] ++ (L (N + 5) :: L (N + 6) :: [L (N + 7), L (N + 8)]))) else [L (N + 9), L (N + 10), L (N + 11)]
def flat (N : Nat) (L : Nat → Int) : List Int := L 0 :: L 1 :: cat (itsT N L) (N + 2)
theorem cat_items (N : Nat) (L : Nat → Int) (k : Nat) (hk : k ≤ N) : cat (itsT N L) k = (List.range k).map (fun j => L (2 + j)) := by
  induction k with
  | zero => rfl
  | succ k ih => rw [cat, ih (by omega), List.range_succ, List.map_append]; congr 1; unfold itsT; rw [if_pos (by omega)]; rfl
theorem flat_eq (N : Nat) (L : Nat → Int) : flat N L = (List.range (N + 12)).map L := by
  unfold flat
  rw [cat, cat, cat_items N L N (Nat.le_refl _)]
  rw [show itsT N L N = [L (N + 2), L (N + 3), L (N + 4), L (N + 5), L (N + 6), L (N + 7), L (N + 8)] from by unfold itsT; rw [if_neg (by omega), if_pos rfl]; rfl]
  rw [show itsT N L (N + 1) = [L (N + 9), L (N + 10), L (N + 11)] from by unfold itsT; rw [if_neg (by omega), if_neg (by omega)]]
  apply List.ext_getElem?
  intro i
  by_cases h0 : i = 0
  · subst h0; simp
  · by_cases h1 : i = 1
    · subst h1; simp
    · obtain ⟨j, rfl⟩ : ∃ j, i = j + 2 := ⟨i - 2, by omega⟩
      rw [List.getElem?_cons_succ, List.getElem?_cons_succ, List.append_assoc]
      by_cases hj : j < N
      · rw [List.getElem?_append_left (by simp; omega)]
        simp [List.getElem?_map, List.getElem?_range, hj, show j + 2 < N + 12 from by omega, Nat.add_comm]
      · rw [List.getElem?_append_right (by simp; omega)]
        by_cases hm : j < N + 10
        · obtain ⟨r, rfl⟩ : ∃ r, j = N + r := ⟨j - N, by omega⟩
          have hr : r < 10 := by omega
          simp only [List.length_map, List.length_range, Nat.add_sub_cancel_left]
          rw [List.getElem?_map, List.getElem?_range (by omega)]
          match r, hr with
          | 0, _ => rfl
          | 1, _ => rfl
          | 2, _ => rfl
          | 3, _ => rfl
          | 4, _ => rfl
          | 5, _ => rfl
          | 6, _ => rfl
          | 7, _ => rfl
          | 8, _ => rfl
          | 9, _ => rfl
        · rw [List.getElem?_eq_none (by simp; omega), List.getElem?_eq_none (by simp; omega)]
theorem flat_len (N : Nat) (L : Nat → Int) : (flat N L).length = N + 12 := by rw [flat_eq]; simp
theorem flat_get (N : Nat) (L : Nat → Int) (i : Nat) (h : i < N + 12) : (flat N L)[i]? = some (L i) := by rw [flat_eq]; simp [List.getElem?_range, h]
theorem flTree {w0 : World} {D ra N : Nat} {L : Nat → Int} {ib cap eo pb ea ib2 ed es n5 n6 n11 : Nat} (h : TR w0 D ra N L ib cap eo pb ea ib2 ed es n5 n6 n11) (hN : N ≤ 65536) : FLC w0 255 ra (L 0) (flat N L) := by
  obtain ⟨cs, r1, r2, ra1, rb, rc, rd⟩ := h.row
  have hr2' : ∀ j, j < N → ∃ p, cs[j * 2]? = some (ex 212 p) ∧ cs[j * 2 + 1]? = some (il (L (2 + j))) := fun j hj => by obtain ⟨p, h1, h2, _⟩ := r2 j hj; exact ⟨p, h1, h2⟩
  have hinner : FLC w0 255 ea (L (N + 5)) (L (N + 5) :: L (N + 6) :: [L (N + 7), L (N + 8)]) := by
    have := flArr ib2 2 2 (fun _ => 212) (fun k => if k = 0 then n5 else n6) (fun k => if k = 0 then L (N + 7) else L (N + 8)) (fun k => if k = 0 then [L (N + 7)] else [L (N + 8)]) (L (N + 6)) (il 0) (.bool false) (.bool false) w0 ea (L (N + 5)) h.arr (by omega) ⟨by omega, by unfold maxLen; omega⟩
      (fun k hk => by
        match k, hk with
        | 0, _ => exact ⟨by rw [h.row2.cell]; rfl, by rw [h.row2.cell]; rfl⟩
        | 1, _ => exact ⟨by rw [h.row2.cell]; rfl, by rw [h.row2.cell]; rfl⟩
        | k + 2, hk => omega)
      (fun k hk => by
        match k, hk with
        | 0, _ => exact flLeaf212 w0 n5 (L (N + 7))
        | 1, _ => exact flLeaf212 w0 n6 (L (N + 8))
        | k + 2, hk => omega)
    exact this
  have hobj : FLC w0 59 eo (L (N + 2)) (L (N + 2) :: L (N + 3) :: ([L (N + 4)] ++ (L (N + 5) :: L (N + 6) :: [L (N + 7), L (N + 8)]))) :=
    flObj pb 1 223 255 es ea (L (N + 3)) (L (N + 4)) (L (N + 5)) (il 0) (.bool false) (.bool false) [L (N + 4)] _ w0 eo (L (N + 2)) h.obj h.prop (flLeaf223 w0 es (L (N + 4))) hinner
  have hdot : FLC w0 262 ed (L (N + 9)) [L (N + 9), L (N + 10), L (N + 11)] := flDot n11 (L (N + 10)) (L (N + 11)) w0 ed (L (N + 9)) h.dot (flLeaf212 w0 n11 (L (N + 11)))
  refine flArr ib (N + 2) cap (fun k => if k < N then 212 else if k = N then 59 else 262) (fun k => if hk : k < N then (hr2' k hk).choose else if k = N then eo else ed) (fun k => if k < N then L (2 + k) else if k = N then L (N + 2) else L (N + 9)) (itsT N L) (L 1) (il 0) (.bool false) (.bool false) w0 ra (L 0) h.root (by omega) h.capN (fun k hk => ?_) (fun k hk => ?_)
  · rw [r1.cell, r1.cell]
    by_cases c1 : k < N
    · have hs := (hr2' k c1).choose_spec
      simp only [c1, if_true, dif_pos]
      exact hs
    · by_cases c2 : k = N
      · subst c2; simp only [Nat.lt_irrefl, if_false, dif_neg, not_false_iff, if_true]; exact ⟨ra1, rb⟩
      · obtain rfl : k = N + 1 := by omega
        simp only [c1, c2, if_false, dif_neg, not_false_iff]; exact ⟨rc, rd⟩
  · unfold itsT
    by_cases c1 : k < N
    · simp only [c1, if_true, dif_pos]; exact flLeaf212 w0 _ _
    · by_cases c2 : k = N
      · subst c2; simp only [Nat.lt_irrefl, if_false, dif_neg, not_false_iff, if_true]; exact hobj
      · simp only [c1, c2, if_false, dif_neg, not_false_iff]; exact hdot
theorem wrap38 {pv tv : Value} {w : World} {Q : Ending → World → Prop} (h : Calls Tryd.prog 67 #[pv, tv] w Q) (hQ : ∀ e w', Q e w' → e = .returned (.tuple #[])) : Calls Tryd.prog 38 #[pv, tv] w Q := by
  have H := Lib.hid h
  have HQ := Lib.hid hQ
  clear h hQ
  go_enter Tryd.func38, Tryd.ntmps38
  go_wp2_with fail
  refine H.out.mono ?_
  intro e w' hq
  obtain rfl := HQ.out _ _ hq
  have HF := Lib.hid hq
  clear hq
  go_wp2_with fail
  go_end0
  exact HF.out
theorem makeTableC (s : ByteArray) (pad : Nat) (pc : Int) (w : World) (hpc : pc = (pad : Int)) (hs : s.size ≤ 65536) (hpad : pad ≤ 140000) (hT : Lib.Utf8Tabs 1 2 w) : Calls Tryd.prog 36 #[.string s, .int .i64 pc] w (TBL ((pad + 1 : Nat) : Int) w) := by
  subst hpc
  exact makeTable s pad w hs hpad hT
def ZB (w : World) (e : Ending) (w' : World) : Prop := ∃ b : Bool, e = .returned (.bool b) ∧ w = w'
set_option maxRecDepth 100000 in
theorem zz36 (s1 s2 s3 : ByteArray) (p1 p2 : Int) (a : Option Addr) (n c : Nat) (w : World) (h1 : s1.size ≤ 9223372036854775807) (h2 : s2.size ≤ 9223372036854775807) (h3 : s3.size ≤ 9223372036854775807) (h4 : n ≤ 9223372036854775807) : Calls Tryd.prog 34 #[.string s1, .string s2, .string s3, .int .u16 p1, .int .u16 p2, .slice a n c] w (ZB w) := by
  have g1 : (0 : Int) ≤ (s1.size : Int) ∧ (s1.size : Int) ≤ 9223372036854775807 := by omega
  have g2 : (0 : Int) ≤ (s2.size : Int) ∧ (s2.size : Int) ≤ 9223372036854775807 := by omega
  have g3 : (0 : Int) ≤ (s3.size : Int) ∧ (s3.size : Int) ≤ 9223372036854775807 := by omega
  have g4 : (0 : Int) ≤ (n : Int) ∧ (n : Int) ≤ 9223372036854775807 := by omega
  obtain ⟨g1a, g1b⟩ := g1
  obtain ⟨g2a, g2b⟩ := g2
  obtain ⟨g3a, g3b⟩ := g3
  obtain ⟨g4a, g4b⟩ := g4
  go_enter Tryd.func34, Tryd.ntmps34
  go_wp2_with fail
  all_goals (go_ret; exact ⟨_, rfl, rfl⟩)
set_option maxRecDepth 100000 in
theorem zz48 (s1 : ByteArray) (p1 : Int) (a : Option Addr) (n c : Nat) (w : World) (h1 : s1.size ≤ 9223372036854775807) (h4 : n ≤ 9223372036854775807) : Calls Tryd.prog 40 #[.string s1, .int .u16 p1, .slice a n c] w (ZB w) := by
  have g1 : (0 : Int) ≤ (s1.size : Int) ∧ (s1.size : Int) ≤ 9223372036854775807 := by omega
  have g4 : (0 : Int) ≤ (n : Int) ∧ (n : Int) ≤ 9223372036854775807 := by omega
  obtain ⟨g1a, g1b⟩ := g1
  obtain ⟨g4a, g4b⟩ := g4
  go_enter Tryd.func40, Tryd.ntmps40
  go_wp2_with fail
  all_goals (go_ret; exact ⟨_, rfl, rfl⟩)
theorem sh_twice (P1 P2 l : Int) (h1 : 0 ≤ P1 ∧ P1 ≤ 1000000) (h2 : 0 ≤ P2 ∧ P2 ≤ 1000000) (hl : -2147483648 ≤ l ∧ l ≤ 2147483647) : sh P2 (sh P1 l) = sh (P1 + P2) l := by
  unfold sh wrap32; omega
end Go.Proofs.YtjlmaingeobgeaaDoor
