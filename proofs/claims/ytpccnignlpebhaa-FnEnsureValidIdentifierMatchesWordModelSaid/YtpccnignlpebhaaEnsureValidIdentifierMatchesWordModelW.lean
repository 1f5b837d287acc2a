/- Proved here: the walk of the law FnEnsureValidIdentifierMatchesWordModel, for every input. -/
import Derived.Test.YtpccnignlpebhaaEVB
import Derived.WalkKit
import Derived.WalkSpells
import Derived.WalkLawsBesides
import Derived.Lib.Hide
import Derived.Lib.SliceRun
import Derived.Deep.RegionWith
namespace Go.Proofs.Ytpccnignlpebhaa.fnEnsureValidIdentifierMatchesWordModel
open Go.RowKit
set_option linter.unusedSimpArgs false
set_option linter.unusedVariables false

set_option maxRecDepth 100000 in
theorem bytes_yes (s : ByteArray) (w : World) (h : s.size ≤ 1048576) : Calls Try.prog 4 #[.string s] w (IsB true w) := by
  go_enter Try.func4, Try.ntmps4
  go_wp2_with fail
  go_ret
  exact ⟨rfl, rfl⟩
set_option maxRecDepth 100000 in
theorem bytes_no (s : ByteArray) (w : World) (h : 1048576 < s.size) (hm : s.size ≤ 9223372036854775807) : Calls Try.prog 4 #[.string s] w (IsB false w) := by
  go_enter Try.func4, Try.ntmps4
  go_wp2_with fail
  go_ret
  exact ⟨rfl, rfl⟩
set_option maxRecDepth 100000 in
theorem walk (a0 : ByteArray) (w : World) (w0 : a0.size ≤ maxLen) :
    Calls Try.prog 3 #[.string a0] w fun e w' => e = .returned (.bool true) ∧ Below w.heap.size w w' := by
  unfold maxLen at w0
  by_cases h : a0.size ≤ 1048576
  · obtain ⟨r, hr⟩ : ∃ r, r = res a0 := ⟨_, rfl⟩
    have HA := Lib.hid (fun W : World => ensure_any a0 W h)
    have HB := Lib.hid (fun W : World => word_any a0 W h)
    have HR := Lib.hid hr
    clear hr
    go_enter Try.func3, Try.ntmps3
    go_wp2_with fail
    refine (bytes_yes _ _ h).mono ?_
    rintro e w' ⟨rfl, rfl⟩
    go_wp2_with fail
    refine (HA.out _).mono ?_
    rintro e w1 ⟨rfl, hb⟩
    rw [← HR.out]
    go_wp2_with fail
    refine (HB.out _).mono ?_
    rintro e w2 ⟨rfl, hb2⟩
    rw [← HR.out]
    go_wp2_with fail
    go_ret
    exact ⟨ret_bool (by simp), bel2 hb hb2⟩
  · go_enter Try.func3, Try.ntmps3
    go_wp2_with fail
    refine (bytes_no _ _ (by omega) (by omega)).mono ?_
    rintro e w' ⟨rfl, rfl⟩
    go_wp2_with fail
    go_ret
    exact ⟨rfl, Below.refl _ _⟩
end Go.Proofs.Ytpccnignlpebhaa.fnEnsureValidIdentifierMatchesWordModel
