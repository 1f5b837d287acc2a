/- Proved here: the walk of the law FnNotIsAlwaysKnownBoolean, for every input. -/
import Derived.Test.YtjcblmbndkacgaaKPN
import Derived.Test.YtjcblmbndkacgaaKPG
import Derived.WalkKit
import Derived.WalkSpells
import Derived.WalkLawsBesides
import Derived.Lib.Hide
import Derived.Lib.SliceRun
import Derived.Deep.RegionWith
import Derived.Deep.RegionHeld3
import Derived.Deep.DeepCutAuto
import Derived.Deep.QuietTactic
import Derived.BigQuiet
namespace Go.Proofs.Ytjcblmbndkacgaa.fnNotIsAlwaysKnownBoolean
open Go.RowKit
set_option linter.unusedSimpArgs false
set_option linter.unusedVariables false

set_option maxRecDepth 100000 in
set_option maxHeartbeats 4000000 in
theorem kp137 (g b : Nat) (w : World) : KPis g w (.iface 137 (.pointer (some ⟨b, 0, none⟩))) 0 := by
  intro W hW
  go_enter Try.func12, Try.ntmps12
  go_wp2_with fail
  go_ret
  exact ⟨rfl, Below.refl _ _⟩

set_option maxRecDepth 100000 in
set_option maxHeartbeats 4000000 in
theorem kp141 (g b : Nat) (w : World) : KPis g w (.iface 141 (.pointer (some ⟨b, 0, none⟩))) 0 := by
  intro W hW
  go_enter Try.func12, Try.ntmps12
  go_wp2_with fail
  go_ret
  exact ⟨rfl, Below.refl _ _⟩

set_option maxRecDepth 100000 in
set_option maxHeartbeats 4000000 in
theorem kp47 (g b : Nat) (w : World) : KPis g w (.iface 47 (.pointer (some ⟨b, 0, none⟩))) 0 := by
  intro W hW
  go_enter Try.func12, Try.ntmps12
  go_wp2_with fail
  go_ret
  exact ⟨rfl, Below.refl _ _⟩

def PhiN (g : Nat) (w : World) (v : Value) : Prop := ∃ t, KPis g w v t ∧ MN g w v
theorem closedN (g : Nat) : Closed g (PhiN g) where
  ext := fun w w' v ⟨t, h, m⟩ he => ⟨t, h.ext he, m.ext he⟩
  nil := fun w => ⟨0, kpnil g w, mnnil g w⟩
  num := fun w b hb c => ⟨5, kp100 g b w, mn100 g w b hb c⟩
  str := fun w b hb c => ⟨6, kp104 g b w, mn104 g w b hb c⟩
  boo := fun w b f hb c => ⟨4, kp108 g b w, mn108 g w b f hb c⟩
  nul := fun w b _ => ⟨2, kp111 g b w, mn111 g w b⟩
  und := fun w b _ => ⟨3, kp114 g b w, mn114 g w b⟩
  big := fun w b s hb hs c => ⟨7, kp116 g b w, by
    rcases hs with rfl | rfl
    · exact mn116a g w b hb c
    · exact mn116b g w b hb c⟩
  un := fun w b v op hb _ _ hI ⟨t, h, _⟩ c0 c1 c2 => ⟨_, kp119 g b v op t w hb c0 c2 h, mn119 g w b v op t hb c0 c1 c2 hI h⟩
  bin := fun w b v v' op hb _ _ hI hI' ⟨x, h, _⟩ ⟨y, h', m'⟩ c0 c1 c2 c3 c4 => ⟨_, kp66 g b v v' 0 0 op x y w hb c0 c1 c2 c3 c4 h h', mn66 g w b v v' op x y hb c0 c1 c2 c3 c4 hI hI' h h' m'⟩
  ifn := fun w b v v' v'' hb _ _ _ _ ⟨x, h, _⟩ ⟨y, h', _⟩ _ _ c2 c3 c4 c5 => ⟨_, kp123 g b v' v'' 0 0 x y w hb c2 c3 c4 c5 h h', mn123 g w b⟩
  ann := fun w b v hb hI ⟨t, h, m⟩ c0 c1 => ⟨_, kp126 g b v t w hb c0 h, mn126 g w b v hb c0 c1 hI m⟩
  enm := fun w b v hb hI ⟨t, h, m⟩ c0 c1 => ⟨_, kp130 g b v t w hb c0 h, mn130 g w b v hb c0 c1 hI m⟩
  tmp := fun w b v hb hI _ c0 _ => by
    rcases hI with rfl | ⟨t, bb, rfl⟩
    · exact ⟨6, kp133n g b w hb c0, mn133 g w b⟩
    · exact ⟨0, kp133 g b t _ w hb c0, mn133 g w b⟩
  oth := fun w b t hb ht => by
    rcases ht with rfl | rfl | rfl | rfl | rfl | rfl
    · exact ⟨0, kp137 g b w, mn137 g w b⟩
    · exact ⟨0, kp141 g b w, mn141 g w b⟩
    · exact ⟨0, kp144 g b w, mn144 g w b⟩
    · exact ⟨0, kp156 g b w, mn156 g w b⟩
    · exact ⟨0, kp159 g b w, mn159 g w b⟩
    · exact ⟨0, kp47 g b w, mn47 g w b⟩
theorem lenR {w : World} {a : Option Addr} {len cap : Nat} {sig : List (Value → Prop)} (h : IsRecs w a len cap sig) : len ≤ maxLen := by
  rcases h with ⟨_, rfl, _⟩ | ⟨x, _, hl, hm, _⟩
  · unfold maxLen; omega
  · omega
def XR (n : Nat) (W : World) (i : Value) (wr : World) : Prop := ∃ j : Nat, j ≤ n ∧ i = .int .i64 j ∧ Hid (Below W.heap.size W wr)

set_option maxRecDepth 100000 in
set_option maxHeartbeats 16000000 in
theorem walk (a0 : Option Addr) (len0 cap0 : Nat) (w : World) (w0 : IsRecs w a0 len0 cap0 NSig) :
    Calls Try.prog 3 #[.slice a0 len0 cap0] w fun e w' => e = .returned (.bool true) ∧ Below w.heap.size w w' := by
  have m0 := lenR w0
  unfold maxLen at m0
  have G7 := Lib.hid (b7 a0 len0 cap0 w (by omega))
  have W0 := Lib.hid w0
  clear w0
  go_enter Try.func3, Try.ntmps3
  go_wp2_with fail
  refine G7.out.mono ?_
  rintro e w' ⟨b, rfl, rfl⟩
  clear G7
  cases b
  · go_wp2_with fail
    go_ret
    exact ⟨rfl, Below.refl _ _⟩
  by_cases l0 : len0 ≤ 4096
  case neg =>
    go_wp2_with fail
    go_ret
    exact ⟨rfl, Below.refl _ _⟩
  by_cases z0 : len0 = 0
  · subst z0
    go_wp2_with fail
    go_ret
    exact ⟨rfl, Below.refl _ _⟩
  have y0 : ((len0 : Int) == 0) = false := by simp; omega
  have y1 : (len0 == 0) = false := by simp; omega
  go_wp2_with fail
  refine (isTree a0 len0 cap0 w W0.out (by omega)).mono ?_
  rintro e wa ⟨b, rfl, hb⟩
  have BA := Lib.hid hb
  clear hb
  cases b
  · go_wp2_with fail
    go_ret
    exact ⟨rfl, BA.out⟩
  go_wp2_with fail
  refine (clone a0 len0 cap0 wa (W0.out.below BA.out) (by omega) (by omega)).mono ?_
  rintro e wd ⟨p0, q0, rfl, hr0, hb⟩
  have R0 := Lib.hid hr0
  have BD := Lib.hid (bel2 BA.out hb)
  clear hb hr0
  go_wp2_with fail
  refine (build (PhiN wd.heap.size) p0 len0 q0 wd (closedN _) R0.out (by omega)).mono ?_
  rintro e we ⟨cs, rfl, hat, hgd, hb⟩
  have AT := Lib.hid hat
  have HG := Lib.hid hgd
  have BE := Lib.hid (bel2 BD.out hb)
  obtain ⟨g, hg⟩ : ∃ g, g = wd.heap.size := ⟨_, rfl⟩
  rw [← hg] at AT HG
  rw [← hg]
  clear hb hat hgd R0 hg
  go_wp2_with fail
  go_loopw [4] (fun i wr => XR len0 we i wr) (fun i _ => len0 - (intOf i).toNat)
  case atStart => exact ⟨0, by omega, rfl, Lib.hid (Below.refl _ _)⟩
  case round =>
    obtain ⟨j, hj, rfl, HB⟩ := hrel
    by_cases hjn : j < len0
    · obtain ⟨v, hv, hI, ⟨t, hk, hm⟩⟩ := HG.out.2.2 j (by omega) hjn
      have hl := HG.out.2.1 j hjn
      have AT2 := Lib.hid (At.below AT.out HB.out AT.out.lt)
      have c0 : wr.cell? ⟨g, j * 2, none⟩ = some v := by rw [AT2.out.cell]; exact hv
      have c1 : wr.cell? ⟨g, j * 2 + 1, none⟩ = some (.int .i32 0) := by rw [AT2.out.cell]; exact hl
      have lg : g < wr.heap.size := AT2.out.lt
      have j0 : (0 : Int) ≤ (j : Int) := Int.natCast_nonneg _
      have j1 : (j : Int) < (len0 : Int) := by omega
      have HN := Lib.hid (nn g we v t hI hk hm wr (Ext.of HB.out) lg)
      have BR := Lib.hid (BE.out.trans (HB.out.mono BE.out.size))
      clear hv hl hk hm
      go_wp2_with fail
      refine HN.out.mono ?_
      rintro e w1 ⟨d, rfl, hd, hk4, hb1⟩
      have HB1 := Lib.hid (HB.out.trans (hb1.mono HB.out.size))
      have HK := Lib.hid (fun o => hk4 (w1.alloc o) ((ExtM.refl _ _ _ _).alloc o))
      clear hb1 hk4 HN c0 c1 lg
      rcases hd with rfl | ⟨td, bd, rfl⟩
      all_goals
        go_wp2_with fail
        refine (HK.out _).mono ?_
        rintro e w2 ⟨rfl, hb2⟩
        have HB2 := Lib.hid ((HB1.out.alloc HB1.out.size _).trans (hb2.mono (by have := HB1.out.size; simp; omega)))
        clear hb2 HK
        go_wp2_with fail
        go_roundw
        case rel => exact ⟨j + 1, by omega, by go_num, HB2⟩
        case measure => simp [intOf]; omega
    · obtain rfl : j = len0 := by omega
      have BF := Lib.hid (BE.out.trans (HB.out.mono BE.out.size))
      go_wp2_with fail
      go_ret
      exact ⟨rfl, BF.out⟩
end Go.Proofs.Ytjcblmbndkacgaa.fnNotIsAlwaysKnownBoolean
