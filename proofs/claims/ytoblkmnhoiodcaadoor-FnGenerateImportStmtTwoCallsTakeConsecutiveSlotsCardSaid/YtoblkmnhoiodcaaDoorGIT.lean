/- Proved here: unicode/utf8's tables, out of what is laid. Condition: what is laid. -/
import Derived.Test.YtoblkmnhoiodcaaDoorRows
import Derived.Test.YtoblkmnhoiodcaaDoorShelf
import Derived.WalkKit
import Derived.WalkSpells
import Derived.WalkLawsBesides
import Derived.Lib.Hide
import Derived.Lib.SliceRun
import Derived.Deep.RegionWith
import Derived.Lib.LaidU8T
import Derived.SevenTiedAt
import Derived.Handy
namespace Go.Proofs.YtoblkmnhoiodcaaDoor
open Go.RowKit
set_option linter.unusedSimpArgs false
set_option linter.unusedVariables false

theorem u8t : U8Types Tryd.prog Tryd.lays197_ren := ⟨Tryd.underlying5, Tryd.underlying241, Tryd.underlying243, Tryd.underlying244⟩
theorem u8x : U8Extra Tryd.prog Tryd.lays197_ren := by constructor <;> kernel_rfl
set_option maxRecDepth 100000 in
theorem tabs {w : World} (h : laidMetH Tryd.prog [("unicode/utf8.acceptRanges", Rows.laid_unicode_utf8_acceptRanges), ("github.com/evanw/esbuild/internal/ast.InvalidRef", Rows.laid_github_com_evanw_esbuild_internal_ast_InvalidRef), ("unicode/utf8.first", Rows.laid_unicode_utf8_first)] w) : Lib.Utf8Tabs 2 3 w := by
  rw [MakeChecks.laidMetH_plain _ _ _ (by kernel_rfl)] at h
  exact utf8Tabs_of_readsT u8t u8x (Lib.laidMet.reads h (n := "unicode/utf8.first") (d := Lib.firstData) (by simp only [List.mem_cons]; right; right; left; congr 1 <;> kernel_rfl)) (Lib.laidMet.reads h (n := "unicode/utf8.acceptRanges") (d := Lib.acceptData) (by simp only [List.mem_cons]; left; congr 1 <;> kernel_rfl))
end Go.Proofs.YtoblkmnhoiodcaaDoor
