/- Proved here: the UTF-16 units of a string, by the model's own decoding, and the arithmetic of a decoder written by hand. No condition. -/
import Derived.Lib.DecodeN
import Derived.Laws.Entries
import Derived.Laws.BitsLemmas
import Derived.Lib.EndianBits
import Derived.WalkKit
namespace Go.Proofs.YtlbkdflbhhbibaaDoor
open Go.RowKit Go.Lib
set_option linter.unusedVariables false
set_option linter.unusedSimpArgs false

/-- The units of one rune. -/
def enc (r : Nat) : List Int := if r < 65536 then [(r : Int)] else [55296 + (((r - 65536) / 1024 : Nat) : Int), 56320 + (((r - 65536) % 1024 : Nat) : Int)]
theorem dec_n (n b0 b1 b2 b3 : Nat) (h : 0 < n) (h0 : b0 < 256) : 1 ≤ (decodeN n b0 b1 b2 b3).2 ∧ (decodeN n b0 b1 b2 b3).2 ≤ n ∧ (decodeN n b0 b1 b2 b3).1 ≤ 1114111 := by
  unfold decodeN
  repeat' split
  all_goals (refine ⟨?_, ?_, ?_⟩ <;> simp only <;> omega)
theorem dec_wd (s : ByteArray) (i : Nat) (h : i < s.size) : 1 ≤ (Utf8.decode s i).2 ∧ i + (Utf8.decode s i).2 ≤ s.size ∧ (Utf8.decode s i).1 ≤ 1114111 := by
  rw [decode_at]
  have := dec_n (s.size - i) (s.get! i).toNat (s.get! (i + 1)).toNat (s.get! (i + 2)).toNat (s.get! (i + 3)).toNat (by omega) (s.get! i).toNat_lt
  omega
/-- The units from byte pos on. -/
def rest (s : ByteArray) (pos : Nat) : List Int := if h : pos < s.size then enc (Utf8.decode s pos).1 ++ rest s (pos + (Utf8.decode s pos).2) else []
termination_by s.size - pos
decreasing_by (have := dec_wd s pos h; omega)
theorem rest_step (s : ByteArray) (pos : Nat) (h : pos < s.size) : rest s pos = enc (Utf8.decode s pos).1 ++ rest s (pos + (Utf8.decode s pos).2) := by
  rw [rest]; simp [h]
theorem rest_end (s : ByteArray) (pos : Nat) (h : ¬ pos < s.size) : rest s pos = [] := by
  rw [rest]; simp [h]
theorem enc_len (r : Nat) : (enc r).length ≤ 2 := by unfold enc; split <;> simp
theorem enc_low {r : Nat} (h : r < 65536) : enc r = [(r : Int)] := by simp [enc, h]
theorem enc_high {r : Nat} (h : ¬ r < 65536) : enc r = [55296 + (((r - 65536) / 1024 : Nat) : Int), 56320 + (((r - 65536) % 1024 : Nat) : Int)] := by simp [enc, h]
/-- out is what the bytes ahead of pos give. -/
def UT (s : ByteArray) (pos : Nat) (out : List Int) : Prop := pos ≤ s.size ∧ out ++ rest s pos = rest s 0 ∧ out.length ≤ 2 * pos
theorem UT.start (s : ByteArray) : UT s 0 [] := ⟨Nat.zero_le _, rfl, Nat.zero_le _⟩
theorem UT.step {s : ByteArray} {pos : Nat} {out : List Int} (h : UT s pos out) (hp : pos < s.size) : UT s (pos + (Utf8.decode s pos).2) (out ++ enc (Utf8.decode s pos).1) := by
  obtain ⟨h0, h1, h2⟩ := h
  have hw := dec_wd s pos hp
  have hl := enc_len (Utf8.decode s pos).1
  refine ⟨by omega, ?_, by simp; omega⟩
  rw [← h1, rest_step s pos hp, List.append_assoc]
theorem UT.end {s : ByteArray} {pos : Nat} {out : List Int} (h : UT s pos out) (hp : ¬ pos < s.size) : out = rest s 0 := by
  have := h.2.1
  rwa [rest_end s pos hp, List.append_nil] at this
end Go.Proofs.YtlbkdflbhhbibaaDoor
