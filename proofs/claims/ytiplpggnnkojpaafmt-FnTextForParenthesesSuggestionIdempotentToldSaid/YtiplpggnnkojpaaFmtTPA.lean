/- Proved here: closed facts for the walk over fmt's stopped front at this program, and the text that it gives. No condition but on lengths. -/
import Derived.Test.YtiplpggnnkojpaaFmtBase
import Derived.WalkKit
import Derived.WalkSpells
import Derived.WalkLawsBesides
import Derived.Lib.Hide
import Derived.Lib.SliceRun
import Derived.Deep.RegionWith
import Derived.Stop.CallBack
import Derived.Stop.IfaceNil
import GoSem.ClaimData
import Derived.Stop.Texts
import Derived.Stop.Told
import Derived.Stop.FmtTextKit
import Derived.Stop.FmtTextVerbs
import Derived.Lib.Repeat
import Derived.Lib.RuneCount
namespace Go.Proofs.YtiplpggnnkojpaaFmt
open Go.RowKit Go.Extern.Stop Go.Stop Go.Extern Go.Kit
set_option linter.unusedSimpArgs false
set_option linter.unusedVariables false

@[go_sem] theorem call8 (args : Array Value) (w : World) : (callFunc 8 args).run Tryf.prog w = ((FmtStop.sprintf #[9, 64] #[9] args).run Tryf.prog w).andThen fun v w' => .ok (.value v) w' :=
  run_callFunc_extern Tryf.func8 (by kernel_rfl) (by kernel_rfl) (by kernel_rfl) (by kernel_rfl) args w
@[go_sem] theorem guard (name : String) (w : World) : (FmtStop.guard name).run Tryf.prog w = .ok () w := by kernel_rfl
@[go_sem] theorem fmt1 : FmtStop.printed? ⟨#[40, 37, 115, 41]⟩ 1 = some [(0, 115, false)] := by kernel_rfl
@[go_sem] theorem fmt1r (w : World) : (FmtDoors.printed ⟨#[40, 37, 115, 41]⟩ 1).run Tryf.prog w = .ok [(0, 115, false)] w := by kernel_rfl
def shapeS : List UInt8 := [12, 6, 0, 0, 0, 0, 0, 0, 0, 115, 116, 114, 105, 110, 103]
@[go_sem] theorem opS (name : String) (x : ByteArray) (w : World) : (FmtStop.operand name false 115 false (.iface 9 (.string x))).run Tryf.prog w = .ok (shapeS, FmtStop.pack x.data.toList) w := by kernel_rfl
theorem t_parse : (FmtText.parse [40, 37, 115, 41]).map FmtText.glue = some [.lit [40], .verb {} 115, .lit [41]] := by rfl
def reading (s : List UInt8) : List (List UInt8) := [[40, 37, 115, 41], shapeS, FmtStop.pack s]
theorem t_text (s : List UInt8) (hs : s.length < 2 ^ 64) : FmtText.text "fmt.Sprintf" (reading s) = some ([40] ++ s ++ [41]) := by
  have hn := FmtText.operand_str_at (sh := shapeS) rfl rfl s hs
  rw [reading, FmtText.text_sprintf_glued t_parse (FmtText.operands_cons hn FmtText.operands_nil)]
  simp [FmtText.render, FmtText.printArg_s_str]
def sugL (n : Nat) : List UInt8 := [40] ++ Lib.repeatL [32] n ++ [41]
def sug (n : Nat) : ByteArray := ⟨(sugL n).toArray⟩
theorem sugL_length (n : Nat) : (sugL n).length = n + 2 := by simp [sugL, Lib.repeatL_length]
theorem told (F : Interp) (n : Nat) (hn : n ≤ 2097152) : FmtStop.textOf (F.told "fmt.Sprintf" (reading (Lib.repeatL [32] n)) 0) = sug n := by
  have hl : (Lib.repeatL [32] n).length = n := by rw [Lib.repeatL_length]; simp
  have ht := told_string F (t_text (Lib.repeatL [32] n) (by omega)) (by simp [hl]; omega)
  have h := textOf_list F.told "fmt.Sprintf" (reading (Lib.repeatL [32] n))
  rw [ht] at h
  unfold sug sugL
  rw [← h]
theorem repeatL_mem (n : Nat) : ∀ x ∈ Lib.repeatL [32] n, x = 32 := by
  induction n with
  | zero => simp [Lib.repeatL]
  | succ n ih => intro x hx; simp [Lib.repeatL] at hx; rcases hx with h | h; exact h; exact ih x h
theorem sug_count (n : Nat) : Lib.runeCount (sug n) = n + 2 := by
  rw [Lib.runeCount_ascii]
  · show (sugL n).toArray.size = n + 2
    simp [sugL_length]
  · intro j hj
    have hm : (sug n)[j] ∈ sugL n := by
      have h := Array.getElem_mem (xs := (sug n).data) hj
      exact List.mem_toArray.1 h
    have : (sug n)[j] = 40 ∨ (sug n)[j] = 32 ∨ (sug n)[j] = 41 := by
      have h := hm
      simp only [sugL, List.mem_append, List.mem_singleton] at h
      rcases h with (h | h) | h
      · exact .inl h
      · exact .inr (.inl (repeatL_mem n _ h))
      · exact .inr (.inr h)
    rcases this with h | h | h <;> rw [h] <;> decide
def cnt (s : ByteArray) : Nat := if Lib.runeCount s < 3 then 1 else Lib.runeCount s - 2
theorem cnt_sug (n : Nat) (h : 1 ≤ n) : cnt (sug n) = n := by unfold cnt; rw [sug_count]; split <;> omega
theorem cnt_bd (s : ByteArray) : 1 ≤ cnt s ∧ cnt s ≤ s.size + 1 := by have := Lib.runeCount_le s; unfold cnt; split <;> omega
end Go.Proofs.YtiplpggnnkojpaaFmt
