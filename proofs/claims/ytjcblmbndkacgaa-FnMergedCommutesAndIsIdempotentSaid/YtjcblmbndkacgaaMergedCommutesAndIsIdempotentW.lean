/- Proved here: the walk of the law FnMergedCommutesAndIsIdempotent, for every input. -/
import Derived.Test.YtjcblmbndkacgaaKPC
import Derived.Test.YtjcblmbndkacgaaKPG
import Derived.WalkKit
import Derived.WalkSpells
import Derived.WalkLawsBesides
import Derived.Lib.Hide
import Derived.Lib.SliceRun
import Derived.Deep.RegionWith
import Derived.Deep.RegionHeld3
import Derived.Deep.DeepCutAuto
import Derived.Deep.QuietTactic
import Derived.BigQuiet
namespace Go.Proofs.Ytjcblmbndkacgaa.fnMergedCommutesAndIsIdempotent
open Go.RowKit
set_option linter.unusedSimpArgs false
set_option linter.unusedVariables false

set_option maxRecDepth 100000 in
set_option maxHeartbeats 4000000 in
theorem kp137 (g b : Nat) (w : World) : KPis g w (.iface 137 (.pointer (some ⟨b, 0, none⟩))) 0 := by
  intro W hW
  go_enter Try.func12, Try.ntmps12
  go_wp2_with fail
  go_ret
  exact ⟨rfl, Below.refl _ _⟩

set_option maxRecDepth 100000 in
set_option maxHeartbeats 4000000 in
theorem kp141 (g b : Nat) (w : World) : KPis g w (.iface 141 (.pointer (some ⟨b, 0, none⟩))) 0 := by
  intro W hW
  go_enter Try.func12, Try.ntmps12
  go_wp2_with fail
  go_ret
  exact ⟨rfl, Below.refl _ _⟩

set_option maxRecDepth 100000 in
set_option maxHeartbeats 4000000 in
theorem kp47 (g b : Nat) (w : World) : KPis g w (.iface 47 (.pointer (some ⟨b, 0, none⟩))) 0 := by
  intro W hW
  go_enter Try.func12, Try.ntmps12
  go_wp2_with fail
  go_ret
  exact ⟨rfl, Below.refl _ _⟩

def PhiK (g : Nat) (w : World) (v : Value) : Prop := ∃ t, KPis g w v t
theorem closedK (g : Nat) : Closed g (PhiK g) where
  ext := fun w w' v ⟨t, h⟩ he => ⟨t, h.ext he⟩
  nil := fun w => ⟨0, kpnil g w⟩
  num := fun w b _ _ => ⟨5, kp100 g b w⟩
  str := fun w b _ _ => ⟨6, kp104 g b w⟩
  boo := fun w b f _ _ => ⟨4, kp108 g b w⟩
  nul := fun w b _ => ⟨2, kp111 g b w⟩
  und := fun w b _ => ⟨3, kp114 g b w⟩
  big := fun w b s _ _ _ => ⟨7, kp116 g b w⟩
  un := fun w b v op hb _ _ _ ⟨t, h⟩ c0 _ c2 => ⟨_, kp119 g b v op t w hb c0 c2 h⟩
  bin := fun w b v v' op hb _ _ _ _ ⟨x, h⟩ ⟨y, h'⟩ c0 c1 c2 c3 c4 => ⟨_, kp66 g b v v' 0 0 op x y w hb c0 c1 c2 c3 c4 h h'⟩
  ifn := fun w b v v' v'' hb _ _ _ _ ⟨x, h⟩ ⟨y, h'⟩ _ _ c2 c3 c4 c5 => ⟨_, kp123 g b v' v'' 0 0 x y w hb c2 c3 c4 c5 h h'⟩
  ann := fun w b v hb _ ⟨t, h⟩ c0 _ => ⟨_, kp126 g b v t w hb c0 h⟩
  enm := fun w b v hb _ ⟨t, h⟩ c0 _ => ⟨_, kp130 g b v t w hb c0 h⟩
  tmp := fun w b v hb hI _ c0 _ => by
    rcases hI with rfl | ⟨t, bb, rfl⟩
    · exact ⟨6, kp133n g b w hb c0⟩
    · exact ⟨0, kp133 g b t _ w hb c0⟩
  oth := fun w b t hb ht => by
    rcases ht with rfl | rfl | rfl | rfl | rfl | rfl
    · exact ⟨0, kp137 g b w⟩
    · exact ⟨0, kp141 g b w⟩
    · exact ⟨0, kp144 g b w⟩
    · exact ⟨0, kp156 g b w⟩
    · exact ⟨0, kp159 g b w⟩
    · exact ⟨0, kp47 g b w⟩
theorem KPis.free {g : Nat} {W : World} {v : Value} {t : Int} (h : KPis g W v t) : KPis W.heap.size W v t := fun W' he => h W' ⟨he.1, fun b hb _ => he.2 b hb (Nat.ne_of_lt hb)⟩
theorem mgc (x y : Int) : mg x y = mg y x := by unfold mg; split <;> split <;> (try split) <;> (try split) <;> first | rfl | omega
theorem mgi (x : Int) : mg x x = x := by unfold mg; split <;> (try split) <;> first | rfl | omega
theorem mgd (x y : Int) : mg x y = x ∨ mg x y = y ∨ mg x y = 1 ∨ mg x y = 0 := by unfold mg; split <;> (try split) <;> (try split) <;> omega
theorem lenR {w : World} {a : Option Addr} {len cap : Nat} {sig : List (Value → Prop)} (h : IsRecs w a len cap sig) : len ≤ maxLen := by
  rcases h with ⟨_, rfl, _⟩ | ⟨x, _, hl, hm, _⟩
  · unfold maxLen; omega
  · omega

set_option maxRecDepth 100000 in
set_option maxHeartbeats 16000000 in
theorem walk (a0 : Option Addr) (len0 cap0 : Nat) (a1 : Option Addr) (len1 cap1 : Nat) (w : World) (w0 : IsRecs w a0 len0 cap0 NSig) (w1 : IsRecs w a1 len1 cap1 NSig) :
    Calls Try.prog 4 #[.slice a0 len0 cap0, .slice a1 len1 cap1] w fun e w' => e = .returned (.bool true) ∧ Below w.heap.size w w' := by
  have m0 := lenR w0
  have m1 := lenR w1
  unfold maxLen at m0 m1
  have G13 := Lib.hid (b13 a0 len0 cap0 a1 len1 cap1 w (by omega) (by omega))
  have W0 := Lib.hid w0
  have W1 := Lib.hid w1
  clear w0 w1
  go_enter Try.func4, Try.ntmps4
  go_wp2_with fail
  refine G13.out.mono ?_
  rintro e w' ⟨b, rfl, rfl⟩
  clear G13
  cases b
  · go_wp2_with fail
    go_ret
    exact ⟨rfl, Below.refl _ _⟩
  by_cases l0 : len0 ≤ 4096
  case neg =>
    go_wp2_with fail
    go_ret
    exact ⟨rfl, Below.refl _ _⟩
  by_cases l1 : len1 ≤ 4096
  case neg =>
    go_wp2_with fail
    go_ret
    exact ⟨rfl, Below.refl _ _⟩
  by_cases z0 : len0 = 0
  · subst z0
    go_wp2_with fail
    go_ret
    exact ⟨rfl, Below.refl _ _⟩
  by_cases z1 : len1 = 0
  · subst z1
    have y0 : ((len0 : Int) == 0) = false := by simp; omega
    go_wp2_with fail
    go_ret
    exact ⟨rfl, Below.refl _ _⟩
  have y0 : ((len0 : Int) == 0) = false := by simp; omega
  have y1 : ((len1 : Int) == 0) = false := by simp; omega
  go_wp2_with fail
  refine (isTree a0 len0 cap0 w W0.out (by omega)).mono ?_
  rintro e wa ⟨b, rfl, hb⟩
  have BA := Lib.hid hb
  clear hb
  cases b
  · go_wp2_with fail
    go_ret
    exact ⟨rfl, BA.out⟩
  go_wp2_with fail
  refine (isTree a1 len1 cap1 wa (W1.out.below BA.out) (by omega)).mono ?_
  rintro e wb ⟨b, rfl, hb⟩
  have BB := Lib.hid (bel2 BA.out hb)
  clear hb
  cases b
  · go_wp2_with fail
    go_ret
    exact ⟨rfl, BB.out⟩
  go_wp2_with fail
  refine (clone a0 len0 cap0 wb (W0.out.below BB.out) (by omega) (by omega)).mono ?_
  rintro e wc ⟨p0, q0, rfl, hr0, hb⟩
  have R0 := Lib.hid hr0
  have BC := Lib.hid (bel2 BB.out hb)
  clear hb hr0
  go_wp2_with fail
  refine (clone a1 len1 cap1 wc (W1.out.below BC.out) (by omega) (by omega)).mono ?_
  rintro e wd ⟨p1, q1, rfl, hr1, hb⟩
  have R1 := Lib.hid hr1
  have R0' := Lib.hid (R0.out.below hb)
  have BD := Lib.hid (bel2 BC.out hb)
  clear hb hr1 R0
  go_wp2_with fail
  refine (build (PhiK wd.heap.size) p0 len0 q0 wd (closedK _) R0'.out (by omega)).mono ?_
  rintro e we ⟨cs0, rfl, hat0, hg0, hb⟩
  have AT0 := Lib.hid hat0
  have G0 := Lib.hid hg0
  have R1' := Lib.hid (R1.out.below hb)
  have BE := Lib.hid (bel2 BD.out hb)
  clear hb hat0 hg0 R1 R0'
  go_wp2_with fail
  refine (build (PhiK we.heap.size) p1 len1 q1 we (closedK _) R1'.out (by omega)).mono ?_
  rintro e wf ⟨cs1, rfl, hat1, hg1, hb⟩
  have AT1 := Lib.hid hat1
  have G1 := Lib.hid hg1
  have AT0' := Lib.hid (At.below AT0.out hb AT0.out.lt)
  have BF := Lib.hid (bel2 BE.out hb)
  obtain ⟨v, hv, hI, ⟨x, hx⟩⟩ := G0.out.2.2 0 (by omega) (by omega)
  have hx2 := KPis.free (hx.ext (Ext.of hb))
  have hl0 := G0.out.2.1 0 (by omega)
  obtain ⟨v', hv', hI', ⟨y, hy⟩⟩ := G1.out.2.2 0 (by omega) (by omega)
  have hy2 := KPis.free hy
  have hl1 := G1.out.2.1 0 (by omega)
  have KX := Lib.hid hx2
  have KY := Lib.hid hy2
  have c0 : wf.cell? ⟨wd.heap.size, 0, none⟩ = some (v) := by rw [AT0'.out.cell]; exact hv
  have c0' : wf.cell? ⟨wd.heap.size, 1, none⟩ = some (.int .i32 0) := by rw [AT0'.out.cell]; exact hl0
  have c1 : wf.cell? ⟨we.heap.size, 0, none⟩ = some (v') := by rw [AT1.out.cell]; exact hv'
  have c1' : wf.cell? ⟨we.heap.size, 1, none⟩ = some (.int .i32 0) := by rw [AT1.out.cell]; exact hl1
  have g0 : wd.heap.size < wf.heap.size := AT0'.out.lt
  have g1 : we.heap.size < wf.heap.size := AT1.out.lt
  have i0 : (0 : Int) < (len0 : Int) := by omega
  have i1 : (0 : Int) < (len1 : Int) := by omega
  clear hb hat1 hg1 hv hv' hx hx2 hy hy2 hl0 hl1 AT0 AT0' AT1 G0 G1 R1' W0 W1
  obtain ⟨WF, hWF⟩ : ∃ W, W = (wf.alloc (.cells #[v, .int .i32 0] 32)).alloc (.cells #[v', .int .i32 0] 32) := ⟨_, rfl⟩
  have EW : Ext wf.heap.size wf WF := by rw [hWF]; exact Ext.alloc (Ext.alloc (Ext.refl _ _) _) _
  have BW := Lib.hid (show Below w.heap.size w WF from by rw [hWF]; exact (BF.out.alloc (by have := BF.out.size; omega) _).alloc (by have := BF.out.size; simp; omega) _)
  have d0 : WF.cell? ⟨wf.heap.size, 0, none⟩ = some (v) := by rw [hWF]; simp [go_sem]
  have d0' : WF.cell? ⟨wf.heap.size, 1, none⟩ = some (.int .i32 0) := by rw [hWF]; simp [go_sem]
  have d1 : WF.cell? ⟨wf.heap.size + 1, 0, none⟩ = some (v') := by rw [hWF]; simp [go_sem]
  have d1' : WF.cell? ⟨wf.heap.size + 1, 1, none⟩ = some (.int .i32 0) := by rw [hWF]; simp [go_sem]
  rcases hI with rfl | ⟨t, bb, rfl⟩ <;> rcases hI' with rfl | ⟨t', bb', rfl⟩
  all_goals
    go_wp2_with fail
    rw [← hWF]
    clear hWF c0 c0' c1 c1'
    refine (merged wf.heap.size _ _ 0 0 x y wf WF EW KX.out KY.out).mono ?_
    rintro e u1 ⟨rfl, hb⟩
    have E1 := Lib.hid (EW.bel hb)
    have B1 := Lib.hid (bel2 BW.out hb)
    have f0 := kept hb d0
    have f0' := kept hb d0'
    have f1 := kept hb d1
    have f1' := kept hb d1'
    clear hb
    go_wp2_with fail
    refine (merged wf.heap.size _ _ 0 0 y x wf u1 E1.out KY.out KX.out).mono ?_
    rintro e u2 ⟨rfl, hb⟩
    have E2 := Lib.hid (E1.out.bel hb)
    have B2 := Lib.hid (bel2 B1.out hb)
    have k0 := kept hb f0
    have k0' := kept hb f0'
    have k1 := kept hb f1
    have k1' := kept hb f1'
    have mc : (mg x y != mg y x) = false := by simp [mgc x y]
    clear hb f0 f0' f1 f1'
    go_wp2_with fail
    refine (KX.out u2 E2.out).mono ?_
    rintro e u3 ⟨rfl, hb⟩
    have E3 := Lib.hid (E2.out.bel hb)
    have B3 := Lib.hid (bel2 B2.out hb)
    have j0 := kept hb k0
    have j0' := kept hb k0'
    have j1 := kept hb k1
    have j1' := kept hb k1'
    clear hb k0 k0' k1 k1'
    go_wp2_with fail
    refine (KY.out u3 E3.out).mono ?_
    rintro e u4 ⟨rfl, hb⟩
    have E4 := Lib.hid (E3.out.bel hb)
    have B4 := Lib.hid (bel2 B3.out hb)
    have n0 := kept hb j0
    have n0' := kept hb j0'
    clear hb j0 j0' j1 j1'
    go_wp2_with fail
    refine (merged wf.heap.size _ _ 0 0 x x wf u4 E4.out KX.out KX.out).mono ?_
    rintro e u5 ⟨rfl, hb⟩
    have B5 := Lib.hid (bel2 B4.out hb)
    have mi : (mg x x != x) = false := by simp [mgi x]
    clear hb
    go_wp2_with fail
    all_goals
      go_ret
      exact ⟨ret_bool (by rcases mgd x y with h | h | h | h <;> simp [h]), B5.out⟩
end Go.Proofs.Ytjcblmbndkacgaa.fnMergedCommutesAndIsIdempotent
