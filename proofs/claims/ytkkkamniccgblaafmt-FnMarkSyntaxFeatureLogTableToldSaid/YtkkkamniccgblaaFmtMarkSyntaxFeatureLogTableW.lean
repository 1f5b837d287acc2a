/- Proved here: the walk of FnMarkSyntaxFeatureLogTable. -/
import Derived.Test.YtkkkamniccgblaaFmtMFT
import Derived.WalkKit
import Derived.WalkSpells
import Derived.WalkLawsBesides
import Derived.Lib.Hide
import Derived.Lib.SliceRun
import Derived.Deep.RegionWith
import Derived.BigRegion
import Derived.BigQuiet
import Derived.OwnWalk
import Derived.IntWalk
import Derived.Deep.Cut
namespace Go.Proofs.YtkkkamniccgblaaFmt.fnMarkSyntaxFeatureLogTable
open Go.RowKit
set_option linter.unusedSimpArgs false
set_option linter.unusedVariables false
open MF

set_option maxRecDepth 100000 in
set_option maxHeartbeats 4000000 in
theorem early (a0 : Int) (a1 : Int) (a2 : Int) (a3 : ByteArray) (a4 : Int) (a5 : Bool) (a6 : Int) (a7 : ByteArray) (a8 : Int) (a9 : Int) (w : World) (w0 : (Lit.int .u64 a0).wf = true) (w1 : (Lit.int .u64 a1).wf = true) (w2 : (Lit.int .u64 a2).wf = true) (w3 : a3.size ≤ maxLen) (w4 : (Lit.int .u8 a4).wf = true) (w6 : (Lit.int .i32 a6).wf = true) (w7 : a7.size ≤ maxLen) (w8 : (Lit.int .i32 a8).wf = true) (w9 : (Lit.int .i32 a9).wf = true) (hn : ¬ (a3.size + a7.size ≤ 1048576 ∧ 0 ≤ a8 ∧ 0 ≤ a9 ∧ a8 + a9 ≤ a7.size ∧ 0 ≤ a6 ∧ named a4 = true)) :
    Calls Tryf.prog 4 #[.int .u64 a0, .int .u64 a1, .int .u64 a2, .string a3, .int .u8 a4, .bool a5, .int .i32 a6, .string a7, .int .i32 a8, .int .i32 a9] w fun e w' => e = .returned (.bool true) ∧ Below w.heap.size w w' := by
  have b8 := wf_i32x w8
  have b9 := wf_i32x w9
  have b6 := wf_i32x w6
  have p3 : (0 : Int) ≤ (a3.size : Int) := Int.natCast_nonneg _
  have p7 : (0 : Int) ≤ (a7.size : Int) := Int.natCast_nonneg _
  by_cases hs : a3.size + a7.size ≤ 1048576
  · have HZ := Lib.hid (zbT8 a3 a7 a0 a1 a2 a4 a6 a8 a9 a5 w hs)
    have q3 : (a3.size : Int) + a7.size ≤ 1048576 := by omega
    have q4 : (a3.size : Int) ≤ 1048576 := by omega
    have q7 : (a7.size : Int) ≤ 1048576 := by omega
    clear w0 w1 w2 w3 w4 w6 w7 w8 w9 hs
    by_cases h8 : a8 < 0
    · clear hn
      go_enter Tryf.func4, Tryf.ntmps4
      go_wp2_with (go_at_call 8; refine HZ.out.mono ?_; rintro e w' ⟨rfl, rfl⟩)
      go_ret
      exact ⟨rfl, Below.refl _ _⟩
    by_cases h9 : a9 < 0
    · clear hn
      go_enter Tryf.func4, Tryf.ntmps4
      go_wp2_with (go_at_call 8; refine HZ.out.mono ?_; rintro e w' ⟨rfl, rfl⟩)
      go_ret
      exact ⟨rfl, Below.refl _ _⟩
    have g8 : 0 ≤ a8 := by omega
    have g9 : 0 ≤ a9 := by omega
    by_cases hl : (a7.size : Int) < a8 + a9
    · clear hn
      go_enter Tryf.func4, Tryf.ntmps4
      go_wp2_with (go_at_call 8; refine HZ.out.mono ?_; rintro e w' ⟨rfl, rfl⟩)
      go_ret
      exact ⟨rfl, Below.refl _ _⟩
    by_cases h6 : a6 < 0
    · clear hn
      go_enter Tryf.func4, Tryf.ntmps4
      go_wp2_with (go_at_call 8; refine HZ.out.mono ?_; rintro e w' ⟨rfl, rfl⟩)
      go_ret
      exact ⟨rfl, Below.refl _ _⟩
    · have hm : named a4 = false := by
        cases hh : named a4
        · rfl
        · exact absurd ⟨by omega, by omega, by omega, by omega, by omega, hh⟩ hn
      have HN := Lib.hid (show ∀ w8, Calls Tryf.prog 6 #[.int .u8 a4] w8 fun e w' => e = .returned (.bool false) ∧ w' = w8 from fun w8 => by rw [← hm]; exact nfmt _ _)
      have g6 : 0 ≤ a6 := by omega
      have gl : a8 + a9 ≤ (a7.size : Int) := by omega
      clear hn hm
      go_enter Tryf.func4, Tryf.ntmps4
      go_wp2_with (first
        | (go_at_call 8; refine HZ.out.mono ?_; rintro e w' ⟨rfl, rfl⟩)
        | (go_at_call 6; refine (HN.out _).mono ?_; rintro e w' ⟨rfl, rfl⟩))
      all_goals (go_ret; exact ⟨rfl, Below.refl _ _⟩)
  · have HZ := Lib.hid (zbF8 a3 a7 a0 a1 a2 a4 a6 a8 a9 a5 w w3 w7 hs)
    clear hn hs b8 b9 b6 p3 p7
    go_enter Tryf.func4, Tryf.ntmps4
    go_wp2_with (go_at_call 8; refine HZ.out.mono ?_; rintro e w' ⟨rfl, rfl⟩)
    go_ret
    exact ⟨rfl, Below.refl _ _⟩

set_option maxRecDepth 100000 in
set_option maxHeartbeats 4000000 in
theorem main (a0 : Int) (a1 : Int) (a2 : Int) (a3 : ByteArray) (a4 : Int) (a5 : Bool) (a6 : Int) (a7 : ByteArray) (a8 : Int) (a9 : Int) (w : World) (w0 : (Lit.int .u64 a0).wf = true) (w1 : (Lit.int .u64 a1).wf = true) (w2 : (Lit.int .u64 a2).wf = true) (w3 : a3.size ≤ maxLen) (w4 : (Lit.int .u8 a4).wf = true) (w6 : (Lit.int .i32 a6).wf = true) (w7 : a7.size ≤ maxLen) (w8 : (Lit.int .i32 a8).wf = true) (w9 : (Lit.int .i32 a9).wf = true) (hT : Lib.Utf8Tabs 0 1 w) (hn : a3.size + a7.size ≤ 1048576 ∧ 0 ≤ a8 ∧ 0 ≤ a9 ∧ a8 + a9 ≤ a7.size ∧ 0 ≤ a6 ∧ named a4 = true) :
    Calls Tryf.prog 4 #[.int .u64 a0, .int .u64 a1, .int .u64 a2, .string a3, .int .u8 a4, .bool a5, .int .i32 a6, .string a7, .int .i32 a8, .int .i32 a9] w fun e w' => e = .returned (.bool true) ∧ Below w.heap.size w w' := by
  have b6 := wf_i32x w6
  obtain ⟨m2, rfl, hm2⟩ := wf_u64x w2
  obtain ⟨hs, h8, h9, hl, h6, hf⟩ := hn
  obtain ⟨o, rfl⟩ : ∃ o : Nat, a8 = o := ⟨a8.toNat, by omega⟩
  obtain ⟨ln, rfl⟩ : ∃ o : Nat, a9 = o := ⟨a9.toNat, by omega⟩
  have p3 : (0 : Int) ≤ (a3.size : Int) := Int.natCast_nonneg _
  have p7 : (0 : Int) ≤ (a7.size : Int) := Int.natCast_nonneg _
  have HZ := Lib.hid (zbT8 a3 a7 a0 a1 m2 a4 a6 o ln a5 w hs)
  have HM := Lib.hid (zzMark a1 a0 a4 a6 m2 o ln a3 a7 a5 w (by omega) (by omega) (by omega) hm2 (by omega) hT (tabs_lt hT))
  have HN := Lib.hid (show ∀ w8, Calls Tryf.prog 6 #[.int .u8 a4] w8 fun e w' => e = .returned (.bool true) ∧ w' = w8 from fun w8 => by rw [← hf]; exact nfmt _ _)
  have q3 : (a3.size : Int) + a7.size ≤ 1048576 := by omega
  have q4 : (a3.size : Int) ≤ 1048576 := by omega
  have q7 : (a7.size : Int) ≤ 1048576 := by omega
  clear w0 w1 w2 w3 w4 w6 w7 w8 w9 hs hf hT hm2
  go_enter Tryf.func4, Tryf.ntmps4
  go_upto_region 14 with (first
    | (go_at_call 8; refine HZ.out.mono ?_; rintro e w' ⟨rfl, rfl⟩)
    | (go_at_call 6; refine (HN.out _).mono ?_; rintro e w' ⟨rfl, rfl⟩)
    | (go_at_call 7; refine HM.out.mono ?_; rintro e w' ⟨sa, sn, sc, rfl, ho, hn1, hb⟩; have HO := Lib.hid ho; have HB := Lib.hid hb; clear ho hb))
  · go_ret
    exact ⟨rfl, Below.refl _ _⟩
  · go_ret
    exact ⟨rfl, Below.refl _ _⟩
  · clear HZ HM HN
    cases hr : resB a1 a0 a4
    · have e0 : sn = 0 := HO.out.1 hr
      subst e0
      go_wp2_with fail
      all_goals (go_ret; exact ⟨by simp_all, HB.out⟩)
    · obtain ⟨rfl, G, lp, sx, ix, rfl, hc⟩ := HO.out.2 hr
      have c0 := hc 0 (by omega)
      have c6 := hc 6 (by omega)
      replace c0 : w'.cell? ⟨G, 0, none⟩ = some (.slice none 0 0) := c0
      replace c6 : w'.cell? ⟨G, 6, none⟩ = some (.int .u8 (kindOf a1 a0 a6 a5)) := c6
      clear hc HO
      cases hb : hasB a1 a0
      · have hb' : (bits BinOp.and IntKind.u64 a1 a0 != 0) = false := hb
        have hk : kindOf a1 a0 a6 a5 = 0 := by simp [kindOf, hb]
        rw [hk] at c6
        clear hb hk
        go_wp2_with fail
        all_goals (go_ret; exact ⟨by simp_all, HB.out⟩)
      · have hb' : (bits BinOp.and IntKind.u64 a1 a0 != 0) = true := hb
        by_cases hf : a0 = 32 ∨ a0 = 17179869184
        · cases a5
          · by_cases h6' : 0 < a6
            · have hk : kindOf a1 a0 a6 false = 4 := by simp [kindOf, hb, hf, h6']
              rw [hk] at c6
              clear hb hk
              rcases hf with rfl | rfl
              all_goals
                go_wp2_with fail
                all_goals (go_ret; exact ⟨by simp_all, HB.out⟩)
            · have hk : kindOf a1 a0 a6 false = 1 := by simp [kindOf, hb, hf, h6']
              rw [hk] at c6
              clear hb hk
              rcases hf with rfl | rfl
              all_goals
                go_wp2_with fail
                all_goals (go_ret; exact ⟨by simp_all, HB.out⟩)
          · have hk : kindOf a1 a0 a6 true = 4 := by simp [kindOf, hb, hf]
            rw [hk] at c6
            clear hb hk
            rcases hf with rfl | rfl
            all_goals
              go_wp2_with fail
              all_goals (go_ret; exact ⟨by simp_all, HB.out⟩)
        · have hk : kindOf a1 a0 a6 a5 = 0 := by simp [kindOf, hf]
          rw [hk] at c6
          have g0 : (a0 == 32) = false := by simp; exact fun e => hf (Or.inl e)
          have g1 : (a0 == 17179869184) = false := by simp; exact fun e => hf (Or.inr e)
          clear hb hk hf
          go_wp2_with fail
          all_goals (go_ret; exact ⟨by simp_all, HB.out⟩)

theorem walk (a0 : Int) (a1 : Int) (a2 : Int) (a3 : ByteArray) (a4 : Int) (a5 : Bool) (a6 : Int) (a7 : ByteArray) (a8 : Int) (a9 : Int) (w : World) (w0 : (Lit.int .u64 a0).wf = true) (w1 : (Lit.int .u64 a1).wf = true) (w2 : (Lit.int .u64 a2).wf = true) (w3 : a3.size ≤ maxLen) (w4 : (Lit.int .u8 a4).wf = true) (w6 : (Lit.int .i32 a6).wf = true) (w7 : a7.size ≤ maxLen) (w8 : (Lit.int .i32 a8).wf = true) (w9 : (Lit.int .i32 a9).wf = true) (hL : laidMetH Tryf.prog [("unicode/utf8.acceptRanges", Rows.laid_unicode_utf8_acceptRanges), ("unicode/utf8.first", Rows.laid_unicode_utf8_first)] w) :
    Calls Tryf.prog 4 #[.int .u64 a0, .int .u64 a1, .int .u64 a2, .string a3, .int .u8 a4, .bool a5, .int .i32 a6, .string a7, .int .i32 a8, .int .i32 a9] w fun e w' => e = .returned (.bool true) ∧ Below w.heap.size w w' := by
  by_cases hn : a3.size + a7.size ≤ 1048576 ∧ 0 ≤ a8 ∧ 0 ≤ a9 ∧ a8 + a9 ≤ a7.size ∧ 0 ≤ a6 ∧ named a4 = true
  · exact main a0 a1 a2 a3 a4 a5 a6 a7 a8 a9 w w0 w1 w2 w3 w4 w6 w7 w8 w9 (tabs hL) hn
  · exact early a0 a1 a2 a3 a4 a5 a6 a7 a8 a9 w w0 w1 w2 w3 w4 w6 w7 w8 w9 hn
end Go.Proofs.YtkkkamniccgblaaFmt.fnMarkSyntaxFeatureLogTable
