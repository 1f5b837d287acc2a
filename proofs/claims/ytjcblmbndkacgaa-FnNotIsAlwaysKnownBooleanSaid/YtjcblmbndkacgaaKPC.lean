/- Proved here: what KnownPrimitiveType answers at a binary node, from the node's cells and the children's answers. Conditions as stated. -/
import Derived.Test.YtjcblmbndkacgaaKPB
import Derived.WalkKit
import Derived.WalkSpells
import Derived.WalkLawsBesides
import Derived.Lib.Hide
import Derived.Lib.SliceRun
import Derived.Deep.RegionWith
import Derived.Deep.RegionHeld3
import Derived.Deep.DeepCutAuto
import Derived.Deep.QuietTactic
import Derived.BigQuiet
namespace Go.Proofs.Ytjcblmbndkacgaa
open Go.RowKit
set_option linter.unusedSimpArgs false
set_option linter.unusedVariables false

set_option maxRecDepth 100000 in
set_option maxHeartbeats 4000000 in
theorem kp66 (g b : Nat) (v v' : Value) (n n' op x y : Int) (w : World) (hb : b ≠ g) (h0 : w.cell? ⟨b, 0, none⟩ = some (v)) (h1 : w.cell? ⟨b, 1, none⟩ = some (.int .i32 n)) (h2 : w.cell? ⟨b, 2, none⟩ = some (v')) (h3 : w.cell? ⟨b, 3, none⟩ = some (.int .i32 n')) (h4 : w.cell? ⟨b, 4, none⟩ = some (.int .u8 op)) (hv : KPis g w v x) (hv' : KPis g w v' y) : KPis g w (.iface 66 (.pointer (some ⟨b, 0, none⟩))) (kBin op x y) := by
  intro W hW
  have c0 := hW.cell hb h0
  have c1 := hW.cell hb h1
  have c2 := hW.cell hb h2
  have c3 := hW.cell hb h3
  have c4 := hW.cell hb h4
  have lb : b < W.heap.size := World.block_lt_of_cell? _ _ c2
  have HM := Lib.hid (merged g v v' n n' x y w W.drew hW hv hv')
  have HV := Lib.hid (hv W hW)
  have HVR := Lib.hid (hv' W hW)
  have HV' := Lib.hid hv'
  have HW := Lib.hid hW
  clear h0 h1 h2 h3 h4 hv hv' hW
  go_enter Try.func12, Try.ntmps12
  by_cases e28 : op = 28
  · subst e28; go_wp2_with fail; go_ret; exact ⟨by simp [kBin, cmpOp], Below.refl _ _⟩
  by_cases e29 : op = 29
  · subst e29; go_wp2_with fail; go_ret; exact ⟨by simp [kBin, cmpOp], Below.refl _ _⟩
  by_cases e26 : op = 26
  · subst e26; go_wp2_with fail; go_ret; exact ⟨by simp [kBin, cmpOp], Below.refl _ _⟩
  by_cases e27 : op = 27
  · subst e27; go_wp2_with fail; go_ret; exact ⟨by simp [kBin, cmpOp], Below.refl _ _⟩
  by_cases e17 : op = 17
  · subst e17; go_wp2_with fail; go_ret; exact ⟨by simp [kBin, cmpOp], Below.refl _ _⟩
  by_cases e19 : op = 19
  · subst e19; go_wp2_with fail; go_ret; exact ⟨by simp [kBin, cmpOp], Below.refl _ _⟩
  by_cases e18 : op = 18
  · subst e18; go_wp2_with fail; go_ret; exact ⟨by simp [kBin, cmpOp], Below.refl _ _⟩
  by_cases e20 : op = 20
  · subst e20; go_wp2_with fail; go_ret; exact ⟨by simp [kBin, cmpOp], Below.refl _ _⟩
  by_cases e22 : op = 22
  · subst e22; go_wp2_with fail; go_ret; exact ⟨by simp [kBin, cmpOp], Below.refl _ _⟩
  by_cases e21 : op = 21
  · subst e21; go_wp2_with fail; go_ret; exact ⟨by simp [kBin, cmpOp], Below.refl _ _⟩
  by_cases e31 : op = 31
  · subst e31
    go_wp2_with fail
    go_region_held3 (fun w' => w'.cell? ⟨b, 0, none⟩ = some (v) ∧ w'.cell? ⟨b, 1, none⟩ = some (.int .i32 n) ∧ w'.cell? ⟨b, 2, none⟩ = some (v') ∧ w'.cell? ⟨b, 3, none⟩ = some (.int .i32 n')) (repeat' (first | (refine And.intro ?_ ?_) | assumption | apply kAlloc | apply kDrew)) ((go_at_call 14; refine HM.out.mono ?_; rintro e w8 ⟨rfl, hb8⟩; have m0 : w8.cell? ⟨b, 0, none⟩ = some (v) := kept hb8 c0; have m1 : w8.cell? ⟨b, 1, none⟩ = some (.int .i32 n) := kept hb8 c1; have m2 : w8.cell? ⟨b, 2, none⟩ = some (v') := kept hb8 c2; have m3 : w8.cell? ⟨b, 3, none⟩ = some (.int .i32 n') := kept hb8 c3))
    all_goals
      have HB := Lib.hid (show Below W.heap.size W w8 from (Below.refl _ _).drew.trans hb8)
      clear hb8
      go_wp2_with fail
      go_ret
      exact ⟨by simp [kBin, cmpOp], HB.out⟩
  by_cases e32 : op = 32
  · subst e32
    go_wp2_with fail
    go_region_held3 (fun w' => w'.cell? ⟨b, 0, none⟩ = some (v) ∧ w'.cell? ⟨b, 1, none⟩ = some (.int .i32 n) ∧ w'.cell? ⟨b, 2, none⟩ = some (v') ∧ w'.cell? ⟨b, 3, none⟩ = some (.int .i32 n')) (repeat' (first | (refine And.intro ?_ ?_) | assumption | apply kAlloc | apply kDrew)) ((go_at_call 14; refine HM.out.mono ?_; rintro e w8 ⟨rfl, hb8⟩; have m0 : w8.cell? ⟨b, 0, none⟩ = some (v) := kept hb8 c0; have m1 : w8.cell? ⟨b, 1, none⟩ = some (.int .i32 n) := kept hb8 c1; have m2 : w8.cell? ⟨b, 2, none⟩ = some (v') := kept hb8 c2; have m3 : w8.cell? ⟨b, 3, none⟩ = some (.int .i32 n') := kept hb8 c3))
    all_goals
      have HB := Lib.hid (show Below W.heap.size W w8 from (Below.refl _ _).drew.trans hb8)
      clear hb8
      go_wp2_with fail
      go_ret
      exact ⟨by simp [kBin, cmpOp], HB.out⟩
  by_cases e30 : op = 30
  · subst e30
    go_wp2_with fail
    refine HV.out.mono ?_
    rintro e w1 ⟨rfl, hb1⟩
    have d2 : w1.cell? ⟨b, 2, none⟩ = some (v') := kept hb1 c2
    have B1 := Lib.hid hb1
    have HV2 := Lib.hid (HV'.out w1 (HW.out.bel hb1))
    clear hb1 HV HVR c0 c1 c2 c3 HM
    go_wp2_with fail
    refine HV2.out.mono ?_
    rintro e w2 ⟨rfl, hb2⟩
    have HB := Lib.hid (bel2 B1.out hb2)
    clear hb2 HV2
    by_cases x2 : x = 2
    · subst x2; go_wp2_with fail; all_goals first | (exfalso; first | omega | (simp_all; done)) | (go_ret; exact ⟨by simp [kBin, cmpOp, kNul, *], HB.out⟩)
    by_cases x3 : x = 3
    · subst x3; go_wp2_with fail; all_goals first | (exfalso; first | omega | (simp_all; done)) | (go_ret; exact ⟨by simp [kBin, cmpOp, kNul, *], HB.out⟩)
    by_cases x0 : x = 0
    · subst x0; go_wp2_with fail; all_goals first | (exfalso; first | omega | (simp_all; done)) | (go_ret; exact ⟨by simp [kBin, cmpOp, kNul, *], HB.out⟩)
    by_cases x1 : x = 1
    · subst x1
      by_cases y0 : y = 0
      · subst y0; go_wp2_with fail; all_goals first | (exfalso; first | omega | (simp_all; done)) | (go_ret; exact ⟨by simp [kBin, cmpOp, kNul, *], HB.out⟩)
      go_wp2_with fail; all_goals first | (exfalso; first | omega | (simp_all; done)) | (go_ret; exact ⟨by simp [kBin, cmpOp, kNul, y0], HB.out⟩)
    go_wp2_with fail; all_goals first | (exfalso; first | omega | (simp_all; done)) | (go_ret; exact ⟨by simp [kBin, cmpOp, kNul, x0, x1, x2, x3], HB.out⟩)
  by_cases e11 : op = 11
  · subst e11
    go_wp2_with fail
    refine HV.out.mono ?_
    rintro e w1 ⟨rfl, hb1⟩
    have d2 : w1.cell? ⟨b, 2, none⟩ = some (v') := kept hb1 c2
    have B1 := Lib.hid hb1
    have HV2 := Lib.hid (HV'.out w1 (HW.out.bel hb1))
    clear hb1 HV HVR c0 c1 c2 c3 HM
    go_wp2_with fail
    refine HV2.out.mono ?_
    rintro e w2 ⟨rfl, hb2⟩
    have HB := Lib.hid (bel2 B1.out hb2)
    clear hb2 HV2
    by_cases x6 : x = 6
    · subst x6; go_wp2_with fail; all_goals first | (exfalso; first | omega | (simp_all; done)) | (go_ret; exact ⟨by simp [kBin, cmpOp, kAdd, *], HB.out⟩)
    by_cases y6 : y = 6
    · subst y6; go_wp2_with fail; all_goals first | (exfalso; first | omega | (simp_all; done)) | (go_ret; exact ⟨by simp [kBin, cmpOp, kAdd, *], HB.out⟩)
    by_cases x7 : x = 7
    · subst x7
      by_cases y7 : y = 7
      · subst y7; go_wp2_with fail; all_goals first | (exfalso; first | omega | (simp_all; done)) | (go_ret; exact ⟨by simp [kBin, cmpOp, kAdd, *], HB.out⟩)
      go_wp2_with fail; all_goals first | (exfalso; first | omega | (simp_all; done)) | (go_ret; exact ⟨by simp [kBin, cmpOp, kAdd, y6, y7], HB.out⟩)
    by_cases x0 : x = 0
    · subst x0; go_wp2_with fail; all_goals first | (exfalso; first | omega | (simp_all; done)) | (go_ret; exact ⟨by simp [kBin, cmpOp, kAdd, y6], HB.out⟩)
    by_cases x1 : x = 1
    · subst x1; go_wp2_with fail; all_goals first | (exfalso; first | omega | (simp_all; done)) | (go_ret; exact ⟨by simp [kBin, cmpOp, kAdd, y6], HB.out⟩)
    by_cases y0 : y = 0
    · subst y0; go_wp2_with fail; all_goals first | (exfalso; first | omega | (simp_all; done)) | (go_ret; exact ⟨by simp [kBin, cmpOp, kAdd, x6, x7], HB.out⟩)
    by_cases y1 : y = 1
    · subst y1; go_wp2_with fail; all_goals first | (exfalso; first | omega | (simp_all; done)) | (go_ret; exact ⟨by simp [kBin, cmpOp, kAdd, x6, x7], HB.out⟩)
    by_cases y7 : y = 7
    · subst y7; go_wp2_with fail; all_goals first | (exfalso; first | omega | (simp_all; done)) | (go_ret; exact ⟨by simp [kBin, cmpOp, kAdd, x6, x7], HB.out⟩)
    go_wp2_with fail; all_goals first | (exfalso; first | omega | (simp_all; done)) | (go_ret; exact ⟨by simp [kBin, cmpOp, kAdd, x0, x1, x6, x7, y0, y1, y6, y7], HB.out⟩)
  by_cases e38 : op = 38
  · subst e38
    go_wp2_with fail
    refine HVR.out.mono ?_
    rintro e w1 ⟨rfl, hb1⟩
    have HB := Lib.hid hb1
    clear hb1
    by_cases y6 : y = 6
    · subst y6; go_wp2_with fail; go_ret; exact ⟨by simp [kBin, cmpOp], HB.out⟩
    go_wp2_with fail; all_goals first | (exfalso; first | omega | (simp_all; done)) | (go_ret; exact ⟨by simp [kBin, cmpOp, y6], HB.out⟩)
  by_cases e12 : op = 12
  · subst e12; go_wp2_with fail; go_ret; exact ⟨by simp [kBin, cmpOp, mixOp], Below.refl _ _⟩
  by_cases e39 : op = 39
  · subst e39; go_wp2_with fail; go_ret; exact ⟨by simp [kBin, cmpOp, mixOp], Below.refl _ _⟩
  by_cases e13 : op = 13
  · subst e13; go_wp2_with fail; go_ret; exact ⟨by simp [kBin, cmpOp, mixOp], Below.refl _ _⟩
  by_cases e40 : op = 40
  · subst e40; go_wp2_with fail; go_ret; exact ⟨by simp [kBin, cmpOp, mixOp], Below.refl _ _⟩
  by_cases e14 : op = 14
  · subst e14; go_wp2_with fail; go_ret; exact ⟨by simp [kBin, cmpOp, mixOp], Below.refl _ _⟩
  by_cases e41 : op = 41
  · subst e41; go_wp2_with fail; go_ret; exact ⟨by simp [kBin, cmpOp, mixOp], Below.refl _ _⟩
  by_cases e15 : op = 15
  · subst e15; go_wp2_with fail; go_ret; exact ⟨by simp [kBin, cmpOp, mixOp], Below.refl _ _⟩
  by_cases e42 : op = 42
  · subst e42; go_wp2_with fail; go_ret; exact ⟨by simp [kBin, cmpOp, mixOp], Below.refl _ _⟩
  by_cases e16 : op = 16
  · subst e16; go_wp2_with fail; go_ret; exact ⟨by simp [kBin, cmpOp, mixOp], Below.refl _ _⟩
  by_cases e43 : op = 43
  · subst e43; go_wp2_with fail; go_ret; exact ⟨by simp [kBin, cmpOp, mixOp], Below.refl _ _⟩
  by_cases e34 : op = 34
  · subst e34; go_wp2_with fail; go_ret; exact ⟨by simp [kBin, cmpOp, mixOp], Below.refl _ _⟩
  by_cases e48 : op = 48
  · subst e48; go_wp2_with fail; go_ret; exact ⟨by simp [kBin, cmpOp, mixOp], Below.refl _ _⟩
  by_cases e33 : op = 33
  · subst e33; go_wp2_with fail; go_ret; exact ⟨by simp [kBin, cmpOp, mixOp], Below.refl _ _⟩
  by_cases e47 : op = 47
  · subst e47; go_wp2_with fail; go_ret; exact ⟨by simp [kBin, cmpOp, mixOp], Below.refl _ _⟩
  by_cases e35 : op = 35
  · subst e35; go_wp2_with fail; go_ret; exact ⟨by simp [kBin, cmpOp, mixOp], Below.refl _ _⟩
  by_cases e49 : op = 49
  · subst e49; go_wp2_with fail; go_ret; exact ⟨by simp [kBin, cmpOp, mixOp], Below.refl _ _⟩
  by_cases e23 : op = 23
  · subst e23; go_wp2_with fail; go_ret; exact ⟨by simp [kBin, cmpOp, mixOp], Below.refl _ _⟩
  by_cases e44 : op = 44
  · subst e44; go_wp2_with fail; go_ret; exact ⟨by simp [kBin, cmpOp, mixOp], Below.refl _ _⟩
  by_cases e24 : op = 24
  · subst e24; go_wp2_with fail; go_ret; exact ⟨by simp [kBin, cmpOp, mixOp], Below.refl _ _⟩
  by_cases e45 : op = 45
  · subst e45; go_wp2_with fail; go_ret; exact ⟨by simp [kBin, cmpOp, mixOp], Below.refl _ _⟩
  by_cases e25 : op = 25
  · subst e25; go_wp2_with fail; go_ret; exact ⟨by simp [kBin, cmpOp, mixOp], Below.refl _ _⟩
  by_cases e46 : op = 46
  · subst e46; go_wp2_with fail; go_ret; exact ⟨by simp [kBin, cmpOp, mixOp], Below.refl _ _⟩
  by_cases e37 : op = 37
  · subst e37
    go_wp2_with fail
    refine HVR.out.mono ?_
    rintro e w1 ⟨rfl, hb1⟩
    have HB := Lib.hid hb1
    clear hb1
    go_wp2_with fail; go_ret; exact ⟨by simp [kBin, cmpOp, mixOp], HB.out⟩
  by_cases e36 : op = 36
  · subst e36
    go_wp2_with fail
    refine HVR.out.mono ?_
    rintro e w1 ⟨rfl, hb1⟩
    have HB := Lib.hid hb1
    clear hb1
    go_wp2_with fail; go_ret; exact ⟨by simp [kBin, cmpOp, mixOp], HB.out⟩
  go_wp2_with fail; all_goals first | (exfalso; first | omega | (simp_all; done)) | (go_ret; exact ⟨by simp [kBin, cmpOp, mixOp, *], Below.refl _ _⟩)
end Go.Proofs.Ytjcblmbndkacgaa
