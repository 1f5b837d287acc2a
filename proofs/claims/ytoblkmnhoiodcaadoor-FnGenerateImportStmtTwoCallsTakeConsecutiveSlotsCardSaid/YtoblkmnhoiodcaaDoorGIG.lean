/- Proved here: logger.PlatformIndependentPathDirBaseExt: it comes back with three strings that are no longer than the path. Condition: the decoder's tables, the string's length, as stated. -/
import Derived.Test.YtoblkmnhoiodcaaDoorGIF
namespace Go.Proofs.YtoblkmnhoiodcaaDoor
namespace IB
open Go.RowKit
set_option linter.unusedSimpArgs false
set_option linter.unusedVariables false

def PDP (n : Nat) (w : World) (e : Ending) (w' : World) : Prop := (∃ d b x : ByteArray, e = .returned (.tuple #[.string d, .string b, .string x]) ∧ d.size ≤ n ∧ b.size ≤ n ∧ x.size ≤ n) ∧ Below w.heap.size w w'
def PRel (n : Nat) (w : World) (v0 v2 v3 : Value) (wr : World) : Prop := ∃ p : ByteArray, v0 = .string p ∧ p.size ≤ n ∧ v2 = .string ⟨#[]⟩ ∧ v3 = .string ⟨#[]⟩ ∧ Below w.heap.size w wr
def strLen : Value → Nat | .string s => s.size | _ => 0
theorem lib28 (s : ByteArray) (c : Int) (hs : s.size ≤ 1048576) : ∃ k : Int, -1 ≤ k ∧ k < s.size ∧ ∀ w, Calls Tryd.prog 28 #[.string s, .int .u8 c] w fun e w' => e = .returned (.int .i64 k) ∧ w' = w := by
  refine ⟨Lib.lastIndexByte s c, ?_, ?_, fun w => Tryd.strings_LastIndexByte s c (by omega) w⟩
  · rcases Lib.lastIdx_spec s c s.size with ⟨h, _⟩ | ⟨i, _, h, _⟩ <;> (show -1 ≤ Lib.lastIdx s c s.size; omega)
  · rcases Lib.lastIdx_spec s c s.size with ⟨h, _⟩ | ⟨i, hi, h, _⟩ <;> (show Lib.lastIdx s c s.size < _; omega)
end IB
end Go.Proofs.YtoblkmnhoiodcaaDoor
