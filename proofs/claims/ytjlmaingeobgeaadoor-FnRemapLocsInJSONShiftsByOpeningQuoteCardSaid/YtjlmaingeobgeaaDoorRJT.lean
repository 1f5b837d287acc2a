/- Proved here: what the laid tables of unicode/utf8 tell, and the ranges of the locations. Conditions as stated. -/
import Derived.Test.YtjlmaingeobgeaaDoorRJH
import Derived.Test.YtjlmaingeobgeaaDoorRows
import Derived.WalkKit
import Derived.WalkSpells
import Derived.WalkLawsBesides
import Derived.Lib.Hide
import Derived.Lib.SliceRun
import Derived.Deep.RegionWith
import Derived.Lib.LaidU8T
import Derived.Lay
import Derived.SevenTiedAt
import Derived.Handy
import Derived.Stop.Joined
import Derived.ProofKit
namespace Go.Proofs.YtjlmaingeobgeaaDoor
open Go.RowKit
set_option linter.unusedSimpArgs false
set_option linter.unusedVariables false

theorem u8t : U8Types Tryd.prog Tryd.lays197_ren := ⟨Tryd.underlying5, Tryd.underlying344, Tryd.underlying346, Tryd.underlying347⟩
theorem u8x : U8Extra Tryd.prog Tryd.lays197_ren := by constructor <;> kernel_rfl
set_option maxRecDepth 100000 in
theorem tabs {w : World} (h : laidMetH Tryd.prog [("unicode/utf8.acceptRanges", Rows.laid_unicode_utf8_acceptRanges), ("unicode/utf8.first", Rows.laid_unicode_utf8_first)] w) : Lib.Utf8Tabs 1 2 w := by
  rw [MakeChecks.laidMetH_plain _ _ _ (by kernel_rfl)] at h
  exact utf8Tabs_of_readsT u8t u8x (Lib.laidMet.reads h (n := "unicode/utf8.first") (d := Lib.firstData) (by simp only [List.mem_cons]; right; left; congr 1 <;> kernel_rfl)) (Lib.laidMet.reads h (n := "unicode/utf8.acceptRanges") (d := Lib.acceptData) (by simp only [List.mem_cons]; left; congr 1 <;> kernel_rfl))
theorem wf_i32' {a : Int} (h : (Lit.int .i32 a).wf = true) : -2147483648 ≤ a ∧ a ≤ 2147483647 := by
  have hmin : IntKind.i32.min = -2147483648 := rfl
  have hmax : IntKind.i32.max = 2147483647 := rfl
  simp only [Lit.wf, Bool.and_eq_true, decide_eq_true_eq] at h
  omega
theorem wf_u16' {a : Int} (h : (Lit.int .u16 a).wf = true) : ∃ n : Nat, a = (n : Int) ∧ n ≤ 65535 := by
  have hmin : IntKind.u16.min = 0 := rfl
  have hmax : IntKind.u16.max = 65535 := rfl
  simp only [Lit.wf, Bool.and_eq_true, decide_eq_true_eq] at h
  exact ⟨a.toNat, by omega, by omega⟩
theorem row_in {w : World} {a : Option Addr} {len cap : Nat} {zs : List Int} (h : IsRow .i32 w a len cap zs) (j : Nat) : -2147483648 ≤ zs.getD j 0 ∧ zs.getD j 0 ≤ 2147483647 := by
  by_cases hj : j < zs.length
  · rcases h with ⟨_, _, _, rfl⟩ | ⟨x, _, _, _, _, _, hw⟩
    · simp at hj
    · have e : zs.getD j 0 = zs[j] := by simp [List.getD, hj]
      rw [e]
      exact wf_i32' (hw _ (List.getElem_mem hj))
  · have e : zs.getD j 0 = 0 := by simp [List.getD, List.getElem?_eq_none (by omega : zs.length ≤ j)]
    omega
theorem pick_in {zs : List Int} (h : ∀ j, -2147483648 ≤ zs.getD j 0 ∧ zs.getD j 0 ≤ 2147483647) (N k : Nat) (hk : k ≤ 100) : -2147483648 ≤ pickV zs N k ∧ pickV zs N k ≤ 2147483647 := by
  unfold pickV
  by_cases c : N = 0
  · rw [if_pos c]; omega
  · rw [if_neg c]; exact h _
theorem LL_in {zs : List Int} (h : ∀ j, -2147483648 ≤ zs.getD j 0 ∧ zs.getD j 0 ≤ 2147483647) (N i : Nat) : -2147483648 ≤ LL zs N i ∧ LL zs N i ≤ 2147483647 := by
  have P := fun k hk => pick_in h N k hk
  unfold LL
  by_cases c0 : i = 0
  · rw [if_pos c0]; exact P 0 (by omega)
  · rw [if_neg c0]
    by_cases c1 : i = 1
    · rw [if_pos c1]; exact P 1 (by omega)
    · rw [if_neg c1]
      by_cases c2 : i < N + 2
      · rw [if_pos c2]; exact h _
      · rw [if_neg c2]
        generalize i - N - 2 = r
        match r with
        | 0 => exact P 2 (by omega)
        | 1 => exact P 3 (by omega)
        | 2 => exact P 4 (by omega)
        | 3 => exact P 7 (by omega)
        | 4 => exact P 8 (by omega)
        | 5 => exact P 5 (by omega)
        | 6 => exact P 6 (by omega)
        | 7 => exact P 9 (by omega)
        | 8 => exact P 10 (by omega)
        | 9 => exact P 11 (by omega)
        | r + 10 => exact ⟨by simp [List.getD], by simp [List.getD]⟩
theorem shM_in {L : Nat → Int} (h : ∀ i, -2147483648 ≤ L i ∧ L i ≤ 2147483647) (p : Int) (m i : Nat) : -2147483648 ≤ shM p m L i ∧ shM p m L i ≤ 2147483647 := by
  unfold shM
  by_cases c : i < m
  · rw [if_pos c]; exact sh_in _ _
  · rw [if_neg c]; exact h i
theorem row_len {w : World} {k : IntKind} {a : Option Addr} {len cap : Nat} {zs : List Int} (h : IsRow k w a len cap zs) : len ≤ 9223372036854775807 := by
  rcases h with ⟨_, rfl, _, _⟩ | ⟨x, _, h1, h2, _⟩
  · omega
  · unfold maxLen at h2; omega
end Go.Proofs.YtjlmaingeobgeaaDoor
