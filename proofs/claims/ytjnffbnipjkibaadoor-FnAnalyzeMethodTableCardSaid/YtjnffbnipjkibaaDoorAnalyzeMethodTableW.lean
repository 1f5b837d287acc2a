/- Proved here: the walk of the law FnAnalyzeMethodTable, for every input. -/
import Derived.Test.YtjnffbnipjkibaaDoorAMD
import Derived.WalkKit
import Derived.WalkSpells
import Derived.WalkLawsBesides
import Derived.Lib.Hide
import Derived.Lib.SliceRun
import Derived.Deep.RegionWith
import Derived.OwnWalk
import Derived.Laws.OwnMore
import Derived.Deep.DeepCutAuto
namespace Go.Proofs.YtjnffbnipjkibaaDoor.fnAnalyzeMethodTable
open Go.RowKit
set_option linter.unusedSimpArgs false
set_option linter.unusedVariables false

def e01 (b : Bool) (x : Int) : Int := if b then x else 0
def CutE (b : Bool) (x : Int) (W : World) (s : Value) (wx : World) : Prop := s = .int .u64 (e01 b x) ∧ W = wx
def CutF (cm : Bool) (W : World) (s : Value) (wx : World) : Prop := ∃ fl, s = .int .u64 fl ∧ Flag fl cm ∧ W = wx
def CutM (priv us lo : Bool) (c k n : Nat) (fl : Int) (Z : World) (s : Value) (wx : World) : Prop :=
  s = .int .i64 0 ∧ ∃ R cap kb D, Hid (MP wx k R cap (kvOf priv kb) .nilIface D n fl) ∧ Hid (priv = true → wx.cell? ⟨kb, 1, none⟩ = some (.int .u32 0)) ∧ Hid (CX wx c k us lo) ∧ Hid (Below Z.heap.size Z wx) ∧ Z.heap.size ≤ R ∧ R ≠ kb ∧ R ≠ k ∧ c ≠ R
def CutI (priv us lo : Bool) (c k n : Nat) (fl : Int) (Z : World) (wx : World) : Prop :=
  ∃ R cap kb D iv, Hid (MP wx k R cap (kvOf priv kb) iv D n fl) ∧ Hid (iv = .nilIface ∨ ∃ q, iv = .iface 238 (.pointer (some ⟨q, 0, none⟩))) ∧ Hid (priv = true → wx.cell? ⟨kb, 1, none⟩ = some (.int .u32 0)) ∧ Hid (CX wx c k us lo) ∧ Hid (Below Z.heap.size Z wx)
theorem flag_bd {fl : Int} {cm : Bool} (h : Flag fl cm) : fl = 0 ∨ fl = 1 ∨ fl = 2 ∨ fl = 3 := by
  rcases h with h | h | h | h
  · exact .inl h.1
  · exact .inr (.inl h.1)
  · exact .inr (.inr (.inl h.1))
  · exact .inr (.inr (.inr h.1))
theorem e01_cases (b : Bool) (x : Int) : e01 b x = 0 ∨ e01 b x = x := by cases b <;> simp [e01]
set_option maxRecDepth 100000 in
set_option maxHeartbeats 8000000 in
theorem main (a0 a1 a2 a3 a4 a5 a6 a7 a8 a9 a10 : Bool) (n : Nat) (hn : n ≤ 4096) (w : World) (hg0 : w.cell? ⟨0, 0, none⟩ = some (.int .u32 4294967295)) (hg1 : w.cell? ⟨0, 1, none⟩ = some (.int .u32 4294967295)) :
    Calls Tryd.prog 3 #[.bool a0, .bool a1, .bool a2, .bool a3, .bool a4, .bool a5, .bool a6, .bool a7, .bool a8, .bool a9, .bool a10, .int .i64 (n : Int)] w fun e w' => e = .returned (.bool true) ∧ Below w.heap.size w w' := by
  have HG := Lib.hid (show Glob w from ⟨hg0, hg1⟩)
  have l0 : 0 < w.heap.size := World.block_lt_of_cell? _ _ hg0
  clear hg0 hg1
  go_enter Tryd.func3, Tryd.ntmps3
  go_upto_if 41 with (fail)
  go_cut [25] (fun s wx => CutE a1 1 w s wx)
  case first =>
    cases a1
    · go_wp2_with fail
      go_meet
      exact ⟨rfl, rfl⟩
    · go_wp2_with fail
      go_meet
      exact ⟨rfl, rfl⟩
  case rest =>
  obtain ⟨rfl, rfl⟩ := hcut
  go_upto_if 42 with (fail)
  go_cut [26] (fun s wx => CutE a9 8 w s wx)
  case first =>
    cases a9
    · go_wp2_with fail
      go_meet
      exact ⟨rfl, rfl⟩
    · go_wp2_with fail
      go_meet
      exact ⟨rfl, rfl⟩
  case rest =>
  obtain ⟨rfl, rfl⟩ := hcut
  go_upto_if 43 with (fail)
  go_cut [27] (fun s wx => CutE a6 2 w s wx)
  case first =>
    cases a6
    · go_wp2_with fail
      go_meet
      exact ⟨rfl, rfl⟩
    · go_wp2_with fail
      go_meet
      exact ⟨rfl, rfl⟩
  case rest =>
  obtain ⟨rfl, rfl⟩ := hcut
  go_upto_if 46 with (fail)
  go_cut [27] (fun s wx => CutF a7 w s wx)
  case first =>
    cases a6
    · cases a7
      · go_wp2_with fail
        go_meet
        exact ⟨0, rfl, .inl ⟨rfl, rfl⟩, rfl⟩
      · go_wp2_with fail
        go_meet
        exact ⟨1, rfl, .inr (.inl ⟨rfl, rfl⟩), rfl⟩
    · cases a7
      · go_wp2_with fail
        go_meet
        exact ⟨2, rfl, .inr (.inr (.inl ⟨rfl, rfl⟩)), rfl⟩
      · go_wp2_with fail
        go_meet
        exact ⟨3, rfl, .inr (.inr (.inr ⟨rfl, rfl⟩)), rfl⟩
  case rest =>
  obtain ⟨fl, rfl, hfl, rfl⟩ := hcut
  have HFL := Lib.hid hfl
  clear hfl
  obtain ⟨ex, hex⟩ : ∃ ex, e01 a1 1 = ex := ⟨_, rfl⟩
  obtain ⟨pf, hpf⟩ : ∃ pf, e01 a9 8 = pf := ⟨_, rfl⟩
  have HX := Lib.hid (show ex = exOf a1 by rw [← hex]; rfl)
  have HEX := Lib.hid (show ex = 0 ∨ ex = 1 by rw [← hex]; exact e01_cases _ _)
  have HPF := Lib.hid (show pf = 0 ∨ pf = 8 by rw [← hpf]; exact e01_cases _ _)
  rw [hex, hpf]
  clear hex hpf
  have H5 := Lib.hid (newPar a0 ex HEX.out w HG.out)
  go_wp2_with fail
  refine H5.out.mono ?_
  rintro e w1 ⟨b, rfl, hb0, hpa, hb1⟩
  have HB1 := Lib.hid hb1
  have H6 := Lib.hid (newPriv b a0 ex pf HPF.out ⟨#[35, 109]⟩ w1 (HG.out.below hb1) (by omega) hpa)
  have bpos : w.heap.size ≤ b := hb0
  clear hb1 hpa H5 hb0
  go_wp2_with fail
  refine H6.out.mono ?_
  rintro e Z ⟨rfl, hpb, hbb, hsz, hblk⟩
  have HBZ := Lib.hid (show Below w.heap.size w Z from HB1.out.trans (hbb.mono bpos))
  have HPB := Lib.hid hpb
  have H7 := Lib.hid (newCtx a2 a3 Z (HG.out.below HBZ.out))
  clear hpb hbb hsz hblk H6 HB1
  go_wp2_with fail
  refine H7.out.mono ?_
  rintro e Z2 ⟨c, k, rfl, hcx, h4, f4, hck, hk, hc, hb2⟩
  have HCX := Lib.hid hcx
  have HB2 := Lib.hid hb2
  have lk : k < Z2.heap.size := World.block_lt_of_cell? _ _ h4
  have lc : c < Z2.heap.size := World.block_lt_of_cell? _ _ hcx.1
  clear hcx hb2 H7
  go_upto_if 58 with (fail)
  go_cut [31] (fun s wx => CutM a8 a2 a3 c k n fl Z s wx)
  case first =>
    cases a8
    · have H9 := Lib.hid (addStr c k n fl (flag_bd HFL.out) a2 a3 ⟨Z2.heap.size, 0, none⟩ (Z2.alloc (.cells #[.int .u16 109] 31)) hn ⟨kAlloc HCX.out.1, kAlloc HCX.out.2.1, kAlloc HCX.out.2.2⟩ (kAlloc h4) ((World.frozen?_of_block (a := ⟨k, 4, none⟩) (Below.heap_alloc Z2 _ k lk)).trans f4) hck)
      go_wp2_with fail
      refine H9.out.mono ?_
      rintro e w4 ⟨R, cap, kb, D, rfl, hm, hkb, hR1, hR2, hR3, hb4, hsz4, hk4, hbl4⟩
      have hR1 : Z2.heap.size + 1 ≤ R := by simpa using hR1
      have hR2 : Z2.heap.size + 1 ≤ kb := by simpa using hR2
      have HM := Lib.hid hm
      have HCX4 := Lib.hid (show CX w4 c k a2 a3 from ⟨(World.cell?_of_block (a := ⟨c, 2, none⟩) (hbl4 c (by simp; omega) hck)).trans (kAlloc HCX.out.1), (hk4 9 (by omega)).trans (kAlloc HCX.out.2.1), (hk4 10 (by omega)).trans (kAlloc HCX.out.2.2)⟩)
      have HB4 := Lib.hid (show Below Z.heap.size Z w4 from (HB2.out.alloc HB2.out.size _).trans (hb4.mono hk))
      have hzz := HB2.out.size
      clear hm hkb hb4 hsz4 hk4 hbl4 H9
      go_wp2_with fail
      go_meet
      exact ⟨rfl, R, cap, kb, D, HM, Lib.hid (fun h => by cases h), HCX4, HB4, by omega, hR3, by omega, by omega⟩
    · have H9 := Lib.hid (addPriv c k n fl (flag_bd HFL.out) a2 a3 Z2 hn HCX.out h4 f4 hck)
      go_wp2_with fail
      refine H9.out.mono ?_
      rintro e w4 ⟨R, cap, kb, D, rfl, hm, hkb, hR1, hR2, hR3, hb4, hsz4, hk4, hbl4⟩
      have HM := Lib.hid hm
      have HKB := Lib.hid hkb
      have HCX4 := Lib.hid (show CX w4 c k a2 a3 from ⟨(World.cell?_of_block (a := ⟨c, 2, none⟩) (hbl4 c lc hck)).trans HCX.out.1, (hk4 9 (by omega)).trans HCX.out.2.1, (hk4 10 (by omega)).trans HCX.out.2.2⟩)
      have HB4 := Lib.hid (show Below Z.heap.size Z w4 from HB2.out.trans (hb4.mono hk))
      have hzz := HB2.out.size
      clear hm hkb hb4 hsz4 hk4 hbl4 H9
      go_wp2_with fail
      go_meet
      exact ⟨rfl, R, cap, kb, D, HM, Lib.hid (fun _ => HKB.out trivial), HCX4, HB4, by omega, hR3, by omega, by omega⟩
  case rest =>
  obtain ⟨rfl, R, cap, kb, D, HM, HKB, HCX4, HB4, hZR, hRkb, hRk, hcR⟩ := hcut
  clear h4 f4 HCX HB2
  go_upto_if 69 with (fail)
  go_cut [] (fun wx => CutI a8 a2 a3 c k n fl Z wx)
  case first =>
    cases a10
    · go_wp2_with fail
      go_meet
      exact ⟨R, cap, kb, D, .nilIface, HM, Lib.hid (.inl rfl), HKB, HCX4, HB4⟩
    · have H10 := Lib.hid (setInit c k R cap (kvOf a8 kb) D n fl a2 a3 wc HCX4.out HM.out (by unfold kvOf; cases a8 <;> exact ⟨_, _, rfl⟩) hRk)
      have lk' : k < wc.heap.size := World.block_lt_of_cell? _ _ HCX4.out.2.1
      have lc' : c < wc.heap.size := World.block_lt_of_cell? _ _ HCX4.out.1
      go_wp2_with fail
      refine H10.out.mono ?_
      rintro e w5 ⟨rfl, ⟨q, hm5⟩, hbl5, hb5, hsz5⟩
      have HM5 := Lib.hid hm5
      have HCX5 := Lib.hid (show CX w5 c k a2 a3 from ⟨(World.cell?_of_block (a := ⟨c, 2, none⟩) (hbl5 c lc' hcR)).trans HCX4.out.1, (World.cell?_of_block (a := ⟨k, 9, none⟩) (hbl5 k lk' (Ne.symm hRk))).trans HCX4.out.2.1, (World.cell?_of_block (a := ⟨k, 10, none⟩) (hbl5 k lk' (Ne.symm hRk))).trans HCX4.out.2.2⟩)
      have HKB5 := Lib.hid (show a8 = true → w5.cell? ⟨kb, 1, none⟩ = some (.int .u32 0) from fun h => (World.cell?_of_block (a := ⟨kb, 1, none⟩) (hbl5 kb (World.block_lt_of_cell? _ _ (HKB.out h)) (Ne.symm hRkb))).trans (HKB.out h))
      have HB5 := Lib.hid (show Below Z.heap.size Z w5 from HB4.out.trans (hb5.mono hZR))
      clear hm5 hbl5 hb5 hsz5 H10
      go_wp2_with fail
      go_meet
      exact ⟨R, cap, kb, D, _, HM5, Lib.hid (.inr ⟨q, rfl⟩), HKB5, HCX5, HB5⟩
  case rest =>
  clear HM HKB HCX4 HB4
  obtain ⟨R, cap, kb, D, iv, HM, HIV, HKB, HCX, HB⟩ := hcut
  rw [HX.out] at HPB
  have H11 := Lib.hid (an11 c k b kb R cap D n iv HIV.out fl a8 a0 a1 a3 a7 a4 a5 a2 pf HPF.out wc HFL.out (HPB.out.keep HB.out) HCX.out HM.out HKB.out hn)
  have HBB := Lib.hid (show Below w.heap.size w wc from HBZ.out.trans (HB.out.mono HBZ.out.size))
  clear HM HIV HKB HCX HB HPB HFL HPF HEX HX HBZ
  go_wp2_with fail
  refine H11.out.mono ?_
  rintro e w6 ⟨rfl, hb6⟩
  have HB6 := Lib.hid (bel2 HBB.out hb6)
  have hs6 := HB6.out.size
  clear hb6 H11 HBB
  have hpn : n = 0 ∨ 0 < n := by omega
  rcases hpn with rfl | hn0
  · cases a0
    all_goals
      cases a1
      all_goals
        cases a3
        all_goals
          cases a7
          all_goals
            simp only [nExp, nStd, nCmp, Bool.and_true, Bool.and_false, Bool.true_and, Bool.false_and, if_true, if_false, Nat.add_zero, Nat.zero_add, Bool.false_eq_true, Nat.lt_irrefl, decide_false, decide_true, Int.natCast_zero]
            go_wp2_with fail
            go_ret
            exact ⟨rfl, (by repeat (first | with_reducible exact HB6.out | (with_reducible refine Below.alloc ?_ (by first | exact hs6 | (simp; omega)) _)))⟩
  · have e1 : (0 < n) = True := by simp; omega
    have e2 : decide (0 < n) = true := by simpa using hn0
    have e3 : decide (0 < (n : Int)) = true := by simp; omega
    cases a0
    all_goals
      cases a1
      all_goals
        cases a3
        all_goals
          cases a7
          all_goals
            simp only [nExp, nStd, nCmp, Bool.and_true, Bool.and_false, Bool.true_and, Bool.false_and, if_true, if_false, Nat.add_zero, Nat.zero_add, Bool.false_eq_true, Nat.lt_irrefl, decide_false, decide_true, Int.natCast_zero, e2]
            go_wp2_with fail
            go_ret
            exact ⟨rfl, (by repeat (first | with_reducible exact HB6.out | (with_reducible refine Below.alloc ?_ (by first | exact hs6 | (simp; omega)) _)))⟩
set_option maxRecDepth 100000 in
set_option maxHeartbeats 8000000 in
theorem walk (a0 : Bool) (a1 : Bool) (a2 : Bool) (a3 : Bool) (a4 : Bool) (a5 : Bool) (a6 : Bool) (a7 : Bool) (a8 : Bool) (a9 : Bool) (a10 : Bool) (a11 : Int) (w : World) (w0 : (Lit.int .i64 a11).wf = true) (hg0 : w.cell? ⟨0, 0, none⟩ = some (.int .u32 4294967295)) (hg1 : w.cell? ⟨0, 1, none⟩ = some (.int .u32 4294967295)) :
    Calls Tryd.prog 3 #[.bool a0, .bool a1, .bool a2, .bool a3, .bool a4, .bool a5, .bool a6, .bool a7, .bool a8, .bool a9, .bool a10, .int .i64 a11] w fun e w' => e = .returned (.bool true) ∧ Below w.heap.size w w' := by
  by_cases c1 : a11 < 0
  · go_enter Tryd.func3, Tryd.ntmps3
    go_wp2_with fail
    go_ret
    exact ⟨rfl, Below.refl _ _⟩
  · by_cases c2 : 4096 < a11
    · go_enter Tryd.func3, Tryd.ntmps3
      go_wp2_with fail
      go_ret
      exact ⟨rfl, Below.refl _ _⟩
    · obtain ⟨n, rfl⟩ : ∃ n : Nat, a11 = n := ⟨a11.toNat, by omega⟩
      exact main a0 a1 a2 a3 a4 a5 a6 a7 a8 a9 a10 n (by omega) w hg0 hg1
end Go.Proofs.YtjnffbnipjkibaaDoor.fnAnalyzeMethodTable
