/- Proved here: GenerateNonUniqueNameFromPath comes back with a string that is not too long; MakeIndex32 and Index32's readers. Conditions: the decoder's tables, the string's length, as stated. -/
import Derived.Test.YtoblkmnhoiodcaaDoorGIG3
import Derived.Test.YtoblkmnhoiodcaaDoorEVA
import Derived.Laws.BitsAllLaws
namespace Go.Proofs.YtoblkmnhoiodcaaDoor
namespace IB
open Go.RowKit
set_option linter.unusedSimpArgs false
set_option linter.unusedVariables false
theorem res_le (s : ByteArray) : (res s).size ≤ 2 * s.size + 1 := by
  by_cases h : (F (bAt s) s.size).1 = []
  · rw [res_nil h]
    show 1 ≤ _
    omega
  · rw [res_some h]
    have := F_len (bAt s) s.size
    have e := strOfNums_size (F (bAt s) s.size).1
    omega
def NMP (n : Nat) (w : World) (e : Ending) (w' : World) : Prop := (∃ s : ByteArray, e = .returned (.string s) ∧ s.size ≤ 2 * n + 1) ∧ Below w.heap.size w w'
set_option maxRecDepth 100000 in
set_option maxHeartbeats 4000000 in
theorem nameFrom (s : ByteArray) (w : World) (hs : s.size ≤ 1048576) (hT : Lib.Utf8Tabs 2 3 w) : Calls Tryd.prog 22 #[.string s] w (NMP s.size w) := by
  have HT := Lib.hid hT
  clear hT
  go_enter Tryd.func22, Tryd.ntmps22
  go_wp2_with fail
  go_at_call 25
  refine (pathBase s w hs HT.out).mono ?_
  rintro e W ⟨⟨d, b, x, rfl, hd, hbz, hx⟩, hB⟩
  have HB := Lib.hid hB
  have HT2 := Lib.hid (tabsBelow HT.out hB)
  clear hB
  obtain ⟨c, hc⟩ : ∃ c, (b.toList == [105, 110, 100, 101, 120]) = c := ⟨_, rfl⟩
  cases c
  · go_wp2_with fail
    go_at_call 26
    refine (ensure_any b W (by omega)).mono ?_
    rintro e V ⟨rfl, hV⟩
    have HV := Lib.hid hV
    clear hV
    have hl := res_le b
    go_wp2_with fail
    go_ret
    exact ⟨⟨_, rfl, by omega⟩, bel2 HB.out HV.out⟩
  · go_wp2_with fail
    go_at_call 25
    refine (pathBase d W (by omega) HT2.out).mono ?_
    rintro e W2 ⟨⟨d2, b2, x2, rfl, hd2, hb2, hx2⟩, hB2⟩
    have HB2 := Lib.hid (bel2 HB.out hB2)
    clear hB2
    by_cases hz : b2.toList = []
    · have hz1 : (!b2.toList.isEmpty) = false := by rw [hz]; rfl
      go_wp2_with fail
      go_at_call 26
      refine (ensure_any b W2 (by omega)).mono ?_
      rintro e V ⟨rfl, hV⟩
      have HV := Lib.hid hV
      clear hV
      have hl := res_le b
      go_wp2_with fail
      go_ret
      exact ⟨⟨_, rfl, by omega⟩, bel2 HB2.out HV.out⟩
    · have hz1 : (!b2.toList.isEmpty) = true := by cases h : b2.toList <;> simp_all
      go_wp2_with fail
      go_at_call 26
      refine (ensure_any b2 W2 (by omega)).mono ?_
      rintro e V ⟨rfl, hV⟩
      have HV := Lib.hid hV
      clear hV
      have hl := res_le b2
      go_wp2_with fail
      go_ret
      exact ⟨⟨_, rfl, by omega⟩, bel2 HB2.out HV.out⟩
/-- An index as Index32 keeps it: all bits turned. -/
def cx (x : Int) : Int := bits BinOp.xor IntKind.u32 IntKind.u32.max x
theorem cx_nat (n : Nat) (h : n < 4294967296) : cx (n : Int) = ((4294967295 ^^^ n : Nat) : Int) := by
  have : (IntKind.u32.max : Int) = ((4294967295 : Nat) : Int) := rfl
  unfold cx
  rw [this, u32_xor_nat _ _ (by omega) h]
theorem cx_lt (n : Nat) (h : n < 4294967296) : 4294967295 ^^^ n < 4294967296 := Nat.xor_lt_two_pow (n := 32) (by omega) (by omega)
theorem cx_cx (n : Nat) (h : n < 4294967296) : cx (cx (n : Int)) = n := by
  rw [cx_nat n h, cx_nat _ (cx_lt n h), ← Nat.xor_assoc, Nat.xor_self, Nat.zero_xor]
theorem cx_ne (n : Nat) (h : n < 4294967295) : cx (n : Int) ≠ 0 := by
  rw [cx_nat n (by omega)]
  intro e
  have e2 : 4294967295 ^^^ n = 0 := by omega
  have : 4294967295 ^^^ (4294967295 ^^^ n) = n := by rw [← Nat.xor_assoc, Nat.xor_self, Nat.zero_xor]
  rw [e2] at this
  simp at this
  omega
theorem mkIdx (x : Int) (w : World) : Calls Tryd.prog 24 #[.int .u32 x] w fun e w' => e = .returned (.agg #[.int .u32 (cx x)]) ∧ w' = w.alloc (.cells #[.int .u32 (cx x)] 71) := by
  have hs : ¬ IntKind.u32.signed = true := by decide
  go_enter Tryd.func24, Tryd.ntmps24
  go_wp2_with fail
  exact bodyPost_ret (v := .agg #[.int .u32 (cx x)]) (by simp [results, Tryd.results24, go_sem, cx]) rfl ⟨rfl, rfl⟩
theorem idxValid (x : Int) (w : World) : Calls Tryd.prog 13 #[.agg #[.int .u32 x]] w fun e w' => e = .returned (.bool (x != 0)) ∧ w' = w.alloc (.cells #[.int .u32 x] 71) := by
  go_enter Tryd.func13, Tryd.ntmps13
  go_wp2_with fail
  go_ret
  exact ⟨rfl, rfl⟩
theorem idxGet (x : Int) (w : World) : Calls Tryd.prog 14 #[.agg #[.int .u32 x]] w fun e w' => e = .returned (.int .u32 (cx x)) ∧ w' = w.alloc (.cells #[.int .u32 x] 71) := by
  have hs : ¬ IntKind.u32.signed = true := by decide
  go_enter Tryd.func14, Tryd.ntmps14
  go_wp2_with fail
  go_ret
  exact ⟨rfl, rfl⟩
end IB
end Go.Proofs.YtoblkmnhoiodcaaDoor
