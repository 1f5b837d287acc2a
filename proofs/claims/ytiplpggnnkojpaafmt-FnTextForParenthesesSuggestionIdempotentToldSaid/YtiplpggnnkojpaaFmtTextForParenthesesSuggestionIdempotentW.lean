/- Proved here: the walk of the law FnTextForParenthesesSuggestionIdempotent, for every input, fmt's text told. -/
import Derived.Test.YtiplpggnnkojpaaFmtTPB
import Derived.WalkKit
import Derived.WalkSpells
import Derived.WalkLawsBesides
import Derived.Lib.Hide
import Derived.Lib.SliceRun
import Derived.Deep.RegionWith
namespace Go.Proofs.YtiplpggnnkojpaaFmt.fnTextForParenthesesSuggestionIdempotent
open Go.RowKit Go.Extern.Stop Go.Stop Go.Extern Go.Kit
set_option linter.unusedSimpArgs false
set_option linter.unusedVariables false

set_option maxRecDepth 100000 in
set_option maxHeartbeats 4000000 in
theorem zz (F : Interp) (s : ByteArray) (w : World) (hF : F.told.answers w.tape) (hs : s.size ≤ 2000000) : Calls Tryf.prog 5 #[.string s] w (TFP s w) := by
  have HT := Lib.hid (tf F s w hF hs)
  clear hF
  go_enter Tryf.func5, Tryf.ntmps5
  go_wp2_with fail
  refine HT.out.mono ?_
  rintro e w1 ⟨rfl, hb⟩
  have HB := Lib.hid hb
  clear hb
  go_wp2_with fail
  go_ret
  exact ⟨rfl, HB.out⟩
theorem bytes_yes (s : ByteArray) (w : World) (hs : s.size ≤ 1048576) : Calls Tryf.prog 4 #[.string s] w fun e w' => e = .returned (.bool true) ∧ w = w' := by
  go_enter Tryf.func4, Tryf.ntmps4
  go_wp2_with fail
  go_ret
  exact ⟨rfl, rfl⟩
theorem bytes_no (s : ByteArray) (w : World) (hs : 1048576 < s.size) (hm : s.size ≤ 9223372036854775807) : Calls Tryf.prog 4 #[.string s] w fun e w' => e = .returned (.bool false) ∧ w = w' := by
  go_enter Tryf.func4, Tryf.ntmps4
  go_wp2_with fail
  go_ret
  exact ⟨rfl, rfl⟩
set_option maxRecDepth 100000 in
set_option maxHeartbeats 4000000 in
theorem walk (F : Interp) (s : ByteArray) (w : World) (hF : F.told.answers w.tape) (w0 : s.size ≤ maxLen) :
    Calls Tryf.prog 3 #[.string s] w fun e w' => e = .returned (.bool true) ∧ Below w.heap.size w w' := by
  unfold maxLen at w0
  by_cases h : s.size ≤ 1048576
  · have HZ := Lib.hid (bytes_yes s w h)
    have H1 := Lib.hid (zz F s w hF (by omega))
    have HFF := Lib.hid hF
    clear hF
    go_enter Tryf.func3, Tryf.ntmps3
    go_wp2_with fail
    refine HZ.out.mono ?_
    rintro e w' ⟨rfl, rfl⟩
    go_wp2_with fail
    refine H1.out.mono ?_
    rintro e w1 ⟨rfl, hb⟩
    have HB := Lib.hid hb
    have hc := cnt_bd s
    have H2 := Lib.hid (zz F (sug (cnt s)) w1 (by rw [hb.tape]; exact HFF.out) (by show (sugL (cnt s)).toArray.size ≤ 2000000; simp [sugL_length]; omega))
    have HE := Lib.hid (cnt_sug (cnt s) hc.1)
    obtain ⟨t, ht⟩ : ∃ t, sug (cnt s) = t := ⟨_, rfl⟩
    unfold TFP at H2
    rw [HE.out] at H2
    rw [ht] at H2 ⊢
    clear hb H1 HZ hc HE HFF
    go_wp2_with fail
    refine H2.out.mono ?_
    rintro e w2 ⟨rfl, hb2⟩
    have HB2 := Lib.hid (bel2 HB.out hb2)
    clear hb2 H2 HB ht
    go_wp2_with fail
    go_ret
    exact ⟨by simp, HB2.out⟩
  · have HZ := Lib.hid (bytes_no s w (by omega) w0)
    clear hF
    go_enter Tryf.func3, Tryf.ntmps3
    go_wp2_with fail
    refine HZ.out.mono ?_
    rintro e w' ⟨rfl, rfl⟩
    go_wp2_with fail
    go_ret
    exact ⟨rfl, Below.refl _ _⟩
end Go.Proofs.YtiplpggnnkojpaaFmt.fnTextForParenthesesSuggestionIdempotent
