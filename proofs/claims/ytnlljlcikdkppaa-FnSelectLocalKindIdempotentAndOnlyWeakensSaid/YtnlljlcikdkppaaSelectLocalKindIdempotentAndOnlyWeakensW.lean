/- Proved here: the walk of the law FnSelectLocalKindIdempotentAndOnlyWeakens: it answers true. Conditions as stated. -/
import Derived.Test.YtnlljlcikdkppaaSLB
import Derived.WalkKit
import Derived.WalkSpells
import Derived.WalkLawsBesides
import Derived.Lib.Hide
import Derived.Lib.SliceRun
import Derived.Deep.RegionWith
import Derived.OwnWalk
import Derived.Laws.OwnMore
namespace Go.Proofs.Ytnlljlcikdkppaa
open Go.RowKit
set_option linter.unusedSimpArgs false
set_option linter.unusedVariables false

theorem kS_tests (k : Int) (h m2 mini wrap pn : Bool) : (kS (kS k h m2 mini wrap pn) h m2 mini wrap pn = kS k h m2 mini wrap pn) ∧ (k ≠ 1 → k ≠ 2 → kS k h m2 mini wrap pn = k) ∧ (k ≠ 2 → kS k h m2 mini wrap pn ≠ 2 ∨ kS k h m2 mini wrap pn = k) ∧ ((k = 1 ∨ k = 2) → kS k h m2 mini wrap pn = k ∨ kS k h m2 mini wrap pn = 0 ∨ kS k h m2 mini wrap pn = 1) := by
  by_cases h1 : k = 1
  · subst h1; revert h m2 mini wrap pn; decide
  · by_cases h2 : k = 2
    · subst h2; revert h m2 mini wrap pn; decide
    · have e : kS k h m2 mini wrap pn = k := by simp [kS, h1, h2]
      rw [e]; exact ⟨e, fun _ _ => rfl, fun _ => .inr rfl, fun hh => hh.elim (fun x => absurd x h1) (fun x => absurd x h2)⟩
namespace fnSelectLocalKindIdempotentAndOnlyWeakens
set_option maxRecDepth 100000 in
set_option maxHeartbeats 4000000 in
theorem walk (a0 : Int) (a1 : Int) (a2 : Int) (a3 : Bool) (a4 : Bool) (a5 : Bool) (w : World) (w0 : (Lit.int .u8 a0).wf = true) (w1 : (Lit.int .u64 a1).wf = true) (w2 : (Lit.int .u8 a2).wf = true) :
    Calls Try.prog 3 #[.int .u8 a0, .int .u64 a1, .int .u8 a2, .bool a3, .bool a4, .bool a5] w fun e w' => e = .returned (.bool true) ∧ Below w.heap.size w w' := by
  clear w0 w1 w2
  have HP := Lib.hid (zpar a5)
  have HZ := Lib.hid (fun k => zsel k a1 a2 a3 a4)
  have HT := Lib.hid (kS_tests a0 (hasB a1) (decide (a2 = 2)) a3 a4 a5)
  go_enter Try.func3, Try.ntmps3
  go_wp2_with fail
  refine (HP.out _).mono ?_
  rintro e W1 ⟨v, rfl, hv, hb1⟩
  have HB1 := Lib.hid hb1
  clear hb1
  go_wp2_with fail
  refine (HZ.out _ _ _).mono ?_
  rintro e W2 ⟨rfl, hb2⟩
  have HB2 := Lib.hid (HB1.out.trans (hb2.mono (HB1.out.size)))
  clear hb2 HB1
  rw [hv]
  obtain ⟨r, hr⟩ : ∃ r, r = kS a0 (hasB a1) (decide (a2 = 2)) a3 a4 a5 := ⟨_, rfl⟩
  rw [← hr] at HT ⊢
  have HR := Lib.hid hr
  clear hr hv
  go_wp2_with fail
  refine (HP.out _).mono ?_
  rintro e W3 ⟨v3, rfl, hv3, hb3⟩
  have HB3 := Lib.hid (HB2.out.trans (hb3.mono (HB2.out.size)))
  clear hb3 HB2
  go_wp2_with fail
  refine (HZ.out _ _ _).mono ?_
  rintro e W4 ⟨rfl, hb4⟩
  have HB4 := Lib.hid (HB3.out.trans (hb4.mono (HB3.out.size)))
  clear hb4 HB3
  rw [hv3, HT.out.1]
  clear hv3
  obtain ⟨-, t1, t2, t3⟩ := HT.out
  clear HT HZ HP
  by_cases h1 : a0 = 1
  · subst h1
    have HX := Lib.hid (t3 (.inl rfl))
    have HY := Lib.hid (t2 (by decide))
    clear t1 t2 t3
    by_cases e1 : r = 1
    · subst e1
      go_wp2_with fail
      go_ret
      exact ⟨rfl, HB4.out⟩
    · obtain rfl : r = 0 := by have := HX.out; omega
      go_wp2_with fail
      go_ret
      exact ⟨rfl, HB4.out⟩
  by_cases h2 : a0 = 2
  · subst h2
    have HX := Lib.hid (t3 (.inr rfl))
    clear t1 t2 t3 h1
    by_cases e1 : r = 1
    · subst e1
      go_wp2_with fail
      go_ret
      exact ⟨rfl, HB4.out⟩
    · by_cases e2 : r = 2
      · subst e2
        go_wp2_with fail
        go_ret
        exact ⟨rfl, HB4.out⟩
      · obtain rfl : r = 0 := by have := HX.out; omega
        go_wp2_with fail
        go_ret
        exact ⟨rfl, HB4.out⟩
  · have b1 : (a0 != 1) = true := by simpa using h1
    have b2 : (a0 != 2) = true := by simpa using h2
    obtain rfl : r = a0 := t1 h1 h2
    clear t1 t2 t3
    go_wp2_with fail
    go_ret
    exact ⟨rfl, HB4.out⟩
end fnSelectLocalKindIdempotentAndOnlyWeakens
end Go.Proofs.Ytnlljlcikdkppaa
