/- Proved here: the tables; what the laws' helpers answer. -/
import Derived.Test.YtkkkamniccgblaaFmtRows
import Derived.Test.YtkkkamniccgblaaFmtMFN
import Derived.WalkKit
import Derived.WalkSpells
import Derived.WalkLawsBesides
import Derived.Lib.Hide
import Derived.Lib.SliceRun
import Derived.Deep.RegionWith
import Derived.Lib.LaidU8T
import Derived.SevenTiedAt
import Derived.Handy
import Derived.BigRegion
import Derived.OwnWalk
import Derived.IntWalk
namespace Go.Proofs.YtkkkamniccgblaaFmt
open Go.RowKit
set_option linter.unusedSimpArgs false
set_option linter.unusedVariables false
open Go.Shelf
namespace MF

theorem u8t : U8Types Tryf.prog Tryf.lays197_ren := ⟨Tryf.underlying5, Tryf.underlying230, Tryf.underlying232, Tryf.underlying233⟩
theorem u8x : U8Extra Tryf.prog Tryf.lays197_ren := by constructor <;> kernel_rfl
set_option maxRecDepth 100000 in
theorem tabs {w : World} (h : laidMetH Tryf.prog [("unicode/utf8.acceptRanges", Rows.laid_unicode_utf8_acceptRanges), ("unicode/utf8.first", Rows.laid_unicode_utf8_first)] w) : Lib.Utf8Tabs 0 1 w := by
  rw [MakeChecks.laidMetH_plain _ _ _ (by kernel_rfl)] at h
  exact utf8Tabs_of_readsT u8t u8x (Lib.laidMet.reads h (n := "unicode/utf8.first") (d := Lib.firstData) (by simp only [List.mem_cons]; right; left; congr 1 <;> kernel_rfl)) (Lib.laidMet.reads h (n := "unicode/utf8.acceptRanges") (d := Lib.acceptData) (by simp only [List.mem_cons]; left; congr 1 <;> kernel_rfl))
theorem tabs_lt {w : World} (h : Lib.Utf8Tabs 0 1 w) : 1 < w.heap.size := World.block_lt_of_cell? _ _ (h.2 0 (by omega)).1
theorem wf_i32x {a : Int} (h : (Lit.int .i32 a).wf = true) : -2147483648 ≤ a ∧ a ≤ 2147483647 := by
  have hmin : IntKind.i32.min = -2147483648 := rfl
  have hmax : IntKind.i32.max = 2147483647 := rfl
  simp only [Lit.wf, Bool.and_eq_true, decide_eq_true_eq] at h
  omega
theorem wf_u64x {a : Int} (h : (Lit.int .u64 a).wf = true) : ∃ n : Nat, a = (n : Int) ∧ n < 18446744073709551616 := by
  have hmin : IntKind.u64.min = 0 := rfl
  have hmax : IntKind.u64.max = 18446744073709551615 := rfl
  simp only [Lit.wf, Bool.and_eq_true, decide_eq_true_eq] at h
  exact ⟨a.toNat, by omega, by omega⟩

theorem zbF5 (env ct : ByteArray) (a0 a1 a2 a4 a6 a8 a9 : Int) (a5 : Bool) (w : World) (h3 : env.size ≤ maxLen) (h7 : ct.size ≤ maxLen) (hn : ¬ env.size + ct.size ≤ 1048576) :
    Calls Tryf.prog 5 #[.int .u64 a0, .int .u64 a1, .int .u64 a2, .string env, .int .u8 a4, .bool a5, .int .i32 a6, .string ct, .int .i32 a8, .int .i32 a9] w fun e w' => e = .returned (.bool false) ∧ w' = w := by
  unfold maxLen at h3 h7
  have p3 : (0 : Int) ≤ (env.size : Int) := Int.natCast_nonneg _
  have p7 : (0 : Int) ≤ (ct.size : Int) := Int.natCast_nonneg _
  have q3 : (env.size : Int) ≤ 9223372036854775807 := by omega
  have q7 : (ct.size : Int) ≤ 9223372036854775807 := by omega
  by_cases c1 : (1048576 : Int) < env.size
  · go_enter Tryf.func5, Tryf.ntmps5
    go_wp2_with fail
    go_ret
    exact ⟨rfl, rfl⟩
  · by_cases c2 : (1048576 : Int) < ct.size
    · go_enter Tryf.func5, Tryf.ntmps5
      go_wp2_with fail
      go_ret
      exact ⟨rfl, rfl⟩
    · have c3 : (1048576 : Int) < (env.size : Int) + ct.size := by omega
      go_enter Tryf.func5, Tryf.ntmps5
      go_wp2_with fail
      go_ret
      exact ⟨rfl, rfl⟩
theorem zbT5 (env ct : ByteArray) (a0 a1 a2 a4 a6 a8 a9 : Int) (a5 : Bool) (w : World) (hn : env.size + ct.size ≤ 1048576) :
    Calls Tryf.prog 5 #[.int .u64 a0, .int .u64 a1, .int .u64 a2, .string env, .int .u8 a4, .bool a5, .int .i32 a6, .string ct, .int .i32 a8, .int .i32 a9] w fun e w' => e = .returned (.bool true) ∧ w' = w := by
  have p3 : (0 : Int) ≤ (env.size : Int) := Int.natCast_nonneg _
  have p7 : (0 : Int) ≤ (ct.size : Int) := Int.natCast_nonneg _
  have q3 : (env.size : Int) ≤ 1048576 := by omega
  have q7 : (ct.size : Int) ≤ 1048576 := by omega
  have c3 : (env.size : Int) + ct.size ≤ 1048576 := by omega
  clear hn
  go_enter Tryf.func5, Tryf.ntmps5
  go_wp2_with fail
  go_ret
  exact ⟨rfl, rfl⟩

theorem zbF8 (env ct : ByteArray) (a0 a1 a2 a4 a6 a8 a9 : Int) (a5 : Bool) (w : World) (h3 : env.size ≤ maxLen) (h7 : ct.size ≤ maxLen) (hn : ¬ env.size + ct.size ≤ 1048576) :
    Calls Tryf.prog 8 #[.int .u64 a0, .int .u64 a1, .int .u64 a2, .string env, .int .u8 a4, .bool a5, .int .i32 a6, .string ct, .int .i32 a8, .int .i32 a9] w fun e w' => e = .returned (.bool false) ∧ w' = w := by
  unfold maxLen at h3 h7
  have p3 : (0 : Int) ≤ (env.size : Int) := Int.natCast_nonneg _
  have p7 : (0 : Int) ≤ (ct.size : Int) := Int.natCast_nonneg _
  have q3 : (env.size : Int) ≤ 9223372036854775807 := by omega
  have q7 : (ct.size : Int) ≤ 9223372036854775807 := by omega
  by_cases c1 : (1048576 : Int) < env.size
  · go_enter Tryf.func8, Tryf.ntmps8
    go_wp2_with fail
    go_ret
    exact ⟨rfl, rfl⟩
  · by_cases c2 : (1048576 : Int) < ct.size
    · go_enter Tryf.func8, Tryf.ntmps8
      go_wp2_with fail
      go_ret
      exact ⟨rfl, rfl⟩
    · have c3 : (1048576 : Int) < (env.size : Int) + ct.size := by omega
      go_enter Tryf.func8, Tryf.ntmps8
      go_wp2_with fail
      go_ret
      exact ⟨rfl, rfl⟩
theorem zbT8 (env ct : ByteArray) (a0 a1 a2 a4 a6 a8 a9 : Int) (a5 : Bool) (w : World) (hn : env.size + ct.size ≤ 1048576) :
    Calls Tryf.prog 8 #[.int .u64 a0, .int .u64 a1, .int .u64 a2, .string env, .int .u8 a4, .bool a5, .int .i32 a6, .string ct, .int .i32 a8, .int .i32 a9] w fun e w' => e = .returned (.bool true) ∧ w' = w := by
  have p3 : (0 : Int) ≤ (env.size : Int) := Int.natCast_nonneg _
  have p7 : (0 : Int) ≤ (ct.size : Int) := Int.natCast_nonneg _
  have q3 : (env.size : Int) ≤ 1048576 := by omega
  have q7 : (ct.size : Int) ≤ 1048576 := by omega
  have c3 : (env.size : Int) + ct.size ≤ 1048576 := by omega
  clear hn
  go_enter Tryf.func8, Tryf.ntmps8
  go_wp2_with fail
  go_ret
  exact ⟨rfl, rfl⟩

def named (f : Int) : Bool := decide (f = 0 ∨ f = 1 ∨ f = 2 ∨ f = 3)
theorem nfmt (f : Int) (w : World) : Calls Tryf.prog 6 #[.int .u8 f] w fun e w' => e = .returned (.bool (named f)) ∧ w' = w := by
  unfold named
  by_cases h0 : f = 0 <;> by_cases h1 : f = 1 <;> by_cases h2 : f = 2 <;> by_cases h3 : f = 3
  all_goals first | (exfalso; omega) | skip
  all_goals (go_enter Tryf.func6, Tryf.ntmps6; go_wp2_with fail; go_ret; first | exact ⟨rfl, rfl⟩ | simp_all [go_sem])
end MF
end Go.Proofs.YtkkkamniccgblaaFmt
