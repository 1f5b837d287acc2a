/- Proved here: what textForParenthesesSuggestion gives, fmt's text told. Condition: the string is not longer than 2097152 bytes. -/
import Derived.Test.YtiplpggnnkojpaaFmtTPA
import Derived.Test.YtiplpggnnkojpaaFmtShelf
import Derived.WalkKit
import Derived.WalkSpells
import Derived.WalkLawsBesides
import Derived.Lib.Hide
import Derived.Lib.SliceRun
import Derived.Deep.RegionWith
namespace Go.Proofs.YtiplpggnnkojpaaFmt
open Go.RowKit Go.Extern.Stop Go.Stop Go.Extern Go.Kit
set_option linter.unusedSimpArgs false
set_option linter.unusedVariables false

def TFP (s : ByteArray) (w : World) (e : Ending) (w' : World) : Prop := e = .returned (.string (sug (cnt s))) ∧ Below w.heap.size w w'
set_option maxRecDepth 100000 in
set_option maxHeartbeats 4000000 in
theorem tf (F : Interp) (s : ByteArray) (w : World) (hF : F.told.answers w.tape) (hs : s.size ≤ 2000000) : Calls Tryf.prog 6 #[.string s] w (TFP s w) := by
  have hrc := Lib.runeCount_le s
  have H1 := Lib.hid (Tryf.utf8_RuneCountInString s w (by omega))
  by_cases h3 : Lib.runeCount s < 3
  · have hc : cnt s = 1 := by unfold cnt; rw [if_pos h3]
    obtain ⟨r, hr⟩ : ∃ r, Lib.runeCount s = r := ⟨_, rfl⟩
    rw [hr] at H1 h3
    have HT := Lib.hid (told F 1 (by omega))
    have HC := Lib.hid hc
    have hlt : ((r : Int) - 2) < 1 := by omega
    clear hr hrc hc
    go_enter Tryf.func6, Tryf.ntmps6
    go_wp2_with fail
    refine H1.out.mono ?_
    rintro e w1 ⟨rfl, pos, rfl⟩
    have HB1 : Below w.heap.size w (w.iter s pos) := (Below.refl _ w).alloc (Nat.le_refl _) _
    obtain ⟨W1, hW1⟩ : ∃ W, W = w.iter s pos := ⟨_, rfl⟩
    rw [← hW1] at HB1 ⊢
    have HB := Lib.hid HB1
    have htp : F.told.answers W1.tape := by rw [HB1.tape]; exact hF
    clear hW1 HB1 H1
    go_wp2_with fail
    refine (Tryf.strings_Repeat ⟨#[32]⟩ 1 _ (by omega) (by show 1 * 1 ≤ 140737488355328; omega)).mono ?_
    rintro e w2 ⟨rfl, hb2⟩
    have HB2 := Lib.hid (bel2 HB.out hb2)
    have htp2 : F.told.answers w2.tape := by rw [hb2.tape]; exact htp
    have hF' := answers_open htp2
    clear hb2 htp htp2 HB
    go_wp2_with fail
    go_ret
    exact ⟨by rw [HC.out]; exact congrArg (fun x => Ending.returned (.string x)) HT.out, (HB2.out.alloc HB2.out.size _).drew⟩
  · obtain ⟨k, hk⟩ : ∃ k, Lib.runeCount s = k + 1 + 2 := ⟨Lib.runeCount s - 3, by omega⟩
    have hc : cnt s = k + 1 := by unfold cnt; rw [if_neg h3, hk]; omega
    rw [hk] at H1
    have HT := Lib.hid (told F (k + 1) (by omega))
    have HC := Lib.hid hc
    have hlt : ¬ (((k + 1 + 2 : Nat) : Int) - 2) < 1 := by omega
    have hkk : k + 1 ≤ 2000000 := by omega
    clear hk hrc hc h3
    go_enter Tryf.func6, Tryf.ntmps6
    go_wp2_with fail
    refine H1.out.mono ?_
    rintro e w1 ⟨rfl, pos, rfl⟩
    have HB1 : Below w.heap.size w (w.iter s pos) := (Below.refl _ w).alloc (Nat.le_refl _) _
    obtain ⟨W1, hW1⟩ : ∃ W, W = w.iter s pos := ⟨_, rfl⟩
    rw [← hW1] at HB1 ⊢
    have HB := Lib.hid HB1
    have htp : F.told.answers W1.tape := by rw [HB1.tape]; exact hF
    have HR := Lib.hid (Tryf.strings_Repeat ⟨#[32]⟩ (k + 1) W1 (by omega) (by show 1 * (k + 1) ≤ 140737488355328; omega))
    clear hW1 HB1 H1
    go_wp2_with fail
    refine HR.out.mono ?_
    rintro e w2 ⟨rfl, hb2⟩
    have HB2 := Lib.hid (bel2 HB.out hb2)
    have htp2 : F.told.answers w2.tape := by rw [hb2.tape]; exact htp
    have hF' := answers_open htp2
    clear hb2 htp htp2 HB HR
    go_wp2_with fail
    go_ret
    exact ⟨by rw [HC.out]; exact congrArg (fun x => Ending.returned (.string x)) HT.out, (HB2.out.alloc HB2.out.size _).drew⟩
end Go.Proofs.YtiplpggnnkojpaaFmt
