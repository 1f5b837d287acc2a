/- Proved here: the walk of the law FnIsSimpleParameterListExact, for every input. -/
import Derived.Test.YtlggmjnlkndpkaaSPB
import Derived.WalkKit
import Derived.WalkSpells
import Derived.WalkLawsBesides
import Derived.Lib.Hide
import Derived.Lib.SliceRun
import Derived.Deep.RegionWith
namespace Go.Proofs.Ytlggmjnlkndpkaa.fnIsSimpleParameterListExact
open Go.RowKit
set_option linter.unusedSimpArgs false
set_option linter.unusedVariables false

theorem args_of {w : World} {B n : Nat} {cs : Array Value} {idf dff : Nat → Bool} (h : At w B 97 cs) (hA : ∀ j, j < n → ArgC cs j (idf j) (dff j)) : Args w (some ⟨B, 0, none⟩) n idf dff := fun _ => by
  refine ⟨B, 0, rfl, fun i hi => ?_⟩
  obtain ⟨t, v, l, d, l2, g1, g2, g3, g4, h0, h1, h2, h3, h4, h5⟩ := hA i hi
  have e : 0 + i * 6 = i * 6 := by omega
  exact ⟨t, v, l, d, l2, g1, g2, g3, g4, by rw [h.cell, e]; exact h0, by rw [h.cell, e]; exact h1, by rw [h.cell, e]; exact h2, by rw [h.cell, e]; exact h3, by rw [h.cell, e]; exact h4, by rw [h.cell, e]; exact h5⟩
theorem same_answer {g g' rest : Bool} {n m : Nat} {zs : List Int} {ds : List Bool} (h : g = true ↔ rest = false ∧ Simple n (idf zs) (dff ds m)) (h' : g' = true ↔ rest = false ∧ (∀ i, i < n → kOK zs i) ∧ (∀ i, i < m → i < n → ds.getD i false = false)) : (g == g') = true := by
  have e : (g = true) ↔ (g' = true) := by
    rw [h, h']
    refine and_congr_right fun _ => ⟨fun hs => ⟨fun i hi => ?_, fun i h1 h2 => ?_⟩, fun ⟨a, b⟩ i hi => ⟨?_, ?_⟩⟩
    · have := (hs i hi).1; simpa [idf, kOK] using this
    · have := (hs i h2).2; simpa [dff, h1] using this
    · have := a i hi; simpa [idf, kOK] using this
    · by_cases h1 : i < m
      · have := b i h1 hi; simp [dff, h1]; simpa using this
      · simp [dff, h1]
  rw [beq_iff_eq]
  exact Bool.eq_iff_iff.2 e
set_option maxRecDepth 100000 in
theorem bytes_yes (a : Option Addr) (n cap : Nat) (a2 : Option Addr) (m cap2 : Nat) (r : Bool) (w : World) (h1 : n ≤ 524288) (h2 : m ≤ 524288) :
    Calls Try.prog 14 #[.slice a n cap, .slice a2 m cap2, .bool r] w fun e w' => e = .returned (.bool true) ∧ w = w' := by
  go_enter Try.func14, Try.ntmps14
  go_wp2_with fail
  go_ret
  exact ⟨rfl, rfl⟩
set_option maxRecDepth 100000 in
theorem early (a : Option Addr) (n cap : Nat) (a2 : Option Addr) (m cap2 : Nat) (r : Bool) (w : World) (h1 : n ≤ maxLen) (h2 : m ≤ maxLen) (h : 524288 < n ∨ 524288 < m) :
    Calls Try.prog 4 #[.slice a n cap, .slice a2 m cap2, .bool r] w fun e w' => e = .returned (.bool true) ∧ Below w.heap.size w w' := by
  unfold maxLen at h1 h2
  by_cases c1 : 524288 < n
  · clear h
    go_enter Try.func4, Try.ntmps4
    go_wp2
    all_goals
      go_ret
      exact ⟨rfl, Below.refl _ _⟩
  · have c2 : 524288 < m := by omega
    clear h
    go_enter Try.func4, Try.ntmps4
    go_wp2
    all_goals
      go_ret
      exact ⟨rfl, Below.refl _ _⟩
set_option maxRecDepth 100000 in
set_option maxHeartbeats 1000000 in
theorem walk (a0 : Option Addr) (len0 cap0 : Nat) (z0 : List Int) (a1 : Option Addr) (len1 cap1 : Nat) (z1 : List Bool) (a2 : Bool) (w : World) (w0 : IsRow .u8 w a0 len0 cap0 z0) (w1 : IsBools w a1 len1 cap1 z1) :
    Calls Try.prog 4 #[.slice a0 len0 cap0, .slice a1 len1 cap1, .bool a2] w fun e w' => e = .returned (.bool true) ∧ Below w.heap.size w w' := by
  obtain ⟨l0, l0', hwf⟩ := len_ints w0
  have l1 := len_bools w1
  by_cases c : 524288 < len0 ∨ 524288 < len1
  · exact early a0 len0 cap0 a1 len1 cap1 a2 w l0 l1 c
  have b0 : len0 ≤ 524288 := by omega
  have b1 : len1 ≤ 524288 := by omega
  have HZ := Lib.hid (show ∀ i, i < len0 → 0 ≤ z0.getD i 0 ∧ z0.getD i 0 ≤ 255 from fun i hi => wf_u8 ((hwf i).resolve_right (by omega)))
  have H0 := Lib.hid w0
  have H1 := Lib.hid w1
  clear w0 w1 c l0 l1 l0' hwf
  go_enter Try.func4, Try.ntmps4
  go_wp2_with (first | (go_at_call 14; refine (bytes_yes _ _ _ _ _ _ _ _ b0 b1).mono ?_; rintro e w' ⟨rfl, rfl⟩))
  refine (cpU8_any a0 len0 cap0 z0 w H0.out (by omega)).mono ?_
  rintro e w1 ⟨a', cap', rfl, r1, hb1⟩
  have K1 : IsBools w1 a1 len1 cap1 z1 := by
    rcases H1.out with h | ⟨x, e1, e2, e3, e4, hc⟩
    · exact .inl h
    · refine .inr ⟨x, e1, e2, e3, e4, fun i hi => ?_⟩
      have := hc i hi
      obtain ⟨b, off, rfl⟩ := spot_none (hc 0 (by omega))
      rw [add_none] at this ⊢
      exact kept hb1 this
  have R1 := Lib.hid r1
  have HK1 := Lib.hid K1
  clear r1 K1 H1 H0
  go_wp2_with fail
  refine (cpB_any a1 len1 cap1 z1 w1 HK1.out (by omega)).mono ?_
  rintro e w2 ⟨a'', cap'', rfl, r2, hb2⟩
  have R1' := Lib.hid (R1.out.below hb2)
  have R2 := Lib.hid r2
  clear r2 R1 HK1
  go_wp2_with fail
  refine (build_any _ _ _ z0 _ _ _ z1 w2 R1'.out R2.out HZ.out (by omega) (by omega)).mono ?_
  rintro e w3 ⟨cs, rfl, hat, hsz, hA, hb3⟩
  have AR := Lib.hid (args_of hat hA)
  have R3 := Lib.hid (R1'.out.below hb3)
  have R4 := Lib.hid (R2.out.below hb3)
  clear hat hsz hA R1' R2
  go_wp2_with fail
  refine (simple_any _ _ _ a2 (idf z0) (dff z1 len1) w3 AR.out (by omega)).mono ?_
  rintro e w4 ⟨g, rfl, hg, hb4⟩
  have HG := Lib.hid hg
  have R5 := Lib.hid (R3.out.below hb4)
  have R6 := Lib.hid (R4.out.below hb4)
  clear hg R3 R4 AR
  go_wp2_with fail
  refine (model_any _ _ _ z0 _ _ _ z1 a2 w4 R5.out R6.out HZ.out (by omega) (by omega)).mono ?_
  rintro e w' ⟨g', rfl, hg', rfl⟩
  have HG' := Lib.hid hg'
  clear hg'
  go_wp2_with fail
  go_ret
  exact ⟨ret_bool (same_answer HG.out HG'.out), bel2 (bel2 (bel2 hb1 hb2) hb3) hb4⟩
end Go.Proofs.Ytlggmjnlkndpkaa.fnIsSimpleParameterListExact
