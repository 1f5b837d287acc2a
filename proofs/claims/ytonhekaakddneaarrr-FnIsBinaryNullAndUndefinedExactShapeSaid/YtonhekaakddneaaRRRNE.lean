/- Proved here: the contract of IsBinaryNullAndUndefined on two binary expressions, case by case (part NE). Conditions: the nodes' cells, as stated. -/
import Derived.Test.YtonhekaakddneaaRRRNV
import Derived.WalkKit
import Derived.WalkSpells
import Derived.WalkLawsBesides
import Derived.Lib.Hide
import Derived.Deep.QuietTactic
import Derived.BigQuiet
import Derived.Deep.DeepCutAuto
namespace Go.Proofs.YtonhekaakddneaaRRR.fnIsBinaryNullAndUndefinedExactShape
open Go.RowKit
set_option linter.unusedSimpArgs false
set_option linter.unusedVariables false


set_option maxRecDepth 100000 in
set_option maxHeartbeats 4000000 in
theorem cN_F (bA bB : Nat) (opL opR op : Int) (t1 : Nat) (p1 : Option Addr) (t2 : Nat) (p2 : Option Addr) (t3 : Nat) (p3 : Option Addr) (t4 : Nat) (p4 : Option Addr) (w : World) (n1_43 : ¬ t1 = 43) (n2_43 : ¬ t2 = 43)  (n4_43 : ¬ t4 = 43) (hA : Bin w bA (.iface t1 (.pointer p1)) 0 (.iface t2 (.pointer p2)) 0 opL) (hB : Bin w bB (.iface t3 (.pointer p3)) 0 (.iface t4 (.pointer p4)) 0 opR) (hl : (opL == op) = true) (hr : (opR == op) = true) :
    Calls Try.prog 8 #[.agg #[.iface 68 (.pointer (some ⟨bA, 0, none⟩)), .int .i32 0], .agg #[.iface 68 (.pointer (some ⟨bB, 0, none⟩)), .int .i32 0], .int .u8 op] w fun e w' => e = .returned (.tuple #[.agg #[.nilIface, .int .i32 0], .agg #[.nilIface, .int .i32 0], .bool false]) ∧ Below w.heap.size w w' := by
  obtain ⟨a0, a1, a2, a3, a4⟩ := hA
  obtain ⟨c0, c1, c2, c3, c4⟩ := hB
  have hltA : bA < w.heap.size := World.block_lt_of_cell? _ _ a0
  have hltB : bB < w.heap.size := World.block_lt_of_cell? _ _ c0
  have m_bA_1 : bA < w.heap.size + 1 := by omega
  have m_bA_2 : bA < w.heap.size + 1 + 1 := by omega
  have m_bA_3 : bA < w.heap.size + 1 + 1 + 1 := by omega
  have m_bA_4 : bA < w.heap.size + 1 + 1 + 1 + 1 := by omega
  have m_bA_5 : bA < w.heap.size + 1 + 1 + 1 + 1 + 1 := by omega
  have m_bA_6 : bA < w.heap.size + 1 + 1 + 1 + 1 + 1 + 1 := by omega
  have m_bA_7 : bA < w.heap.size + 1 + 1 + 1 + 1 + 1 + 1 + 1 := by omega
  have m_bA_8 : bA < w.heap.size + 1 + 1 + 1 + 1 + 1 + 1 + 1 + 1 := by omega
  have m_bB_1 : bB < w.heap.size + 1 := by omega
  have m_bB_2 : bB < w.heap.size + 1 + 1 := by omega
  have m_bB_3 : bB < w.heap.size + 1 + 1 + 1 := by omega
  have m_bB_4 : bB < w.heap.size + 1 + 1 + 1 + 1 := by omega
  have m_bB_5 : bB < w.heap.size + 1 + 1 + 1 + 1 + 1 := by omega
  have m_bB_6 : bB < w.heap.size + 1 + 1 + 1 + 1 + 1 + 1 := by omega
  have m_bB_7 : bB < w.heap.size + 1 + 1 + 1 + 1 + 1 + 1 + 1 := by omega
  have m_bB_8 : bB < w.heap.size + 1 + 1 + 1 + 1 + 1 + 1 + 1 + 1 := by omega
  go_enter Try.func8, Try.ntmps8
  go_upto_region 5 with fail
  obtain ⟨W, hW⟩ : ∃ W, W = (((w.alloc (Obj.cells #[.iface 68 (.pointer (some ⟨bA, 0, none⟩)), .int .i32 0] 28)).alloc (Obj.cells #[.iface 68 (.pointer (some ⟨bB, 0, none⟩)), .int .i32 0] 28)).alloc (Obj.cells #[.nilIface, .int .i32 0] 28)).alloc (Obj.cells #[.nilIface, .int .i32 0] 28) := ⟨_, rfl⟩
  rw [← hW]
  have B : Below w.heap.size w W := by rw [hW]; exact ((((Below.refl _ _).alloc (Nat.le_refl _) _).alloc (by simp) _).alloc (by simp; omega) _).alloc (by simp; omega) _
  have Z : W.heap.size = w.heap.size + 4 := by rw [hW]; simp
  have V2 : Var W (w.heap.size + 2) .nilIface := by rw [hW]; exact ⟨by simp [go_sem], by simp [go_sem], by simp [go_sem], by simp [go_sem]⟩
  have V3 : Var W (w.heap.size + 3) .nilIface := by rw [hW]; exact ⟨by simp [go_sem], by simp [go_sem], by simp [go_sem], by simp [go_sem]⟩
  have HA : Bin W bA (.iface t1 (.pointer p1)) 0 (.iface t2 (.pointer p2)) 0 opL := Bin.below ⟨a0, a1, a2, a3, a4⟩ B
  have HB : Bin W bB (.iface t3 (.pointer p3)) 0 (.iface t4 (.pointer p4)) 0 opR := Bin.below ⟨c0, c1, c2, c3, c4⟩ B
  have E := Lib.hid hW
  clear hW E a0 a1 a2 a3 a4 c0 c1 c2 c3 c4 m_bA_1 m_bA_2 m_bA_3 m_bA_4 m_bA_5 m_bA_6 m_bA_7 m_bA_8 m_bB_1 m_bB_2 m_bB_3 m_bB_4 m_bB_5 m_bB_6 m_bB_7 m_bB_8
  go_cut [13, 14] (fun s13 s14 wx => Two W (.iface t1 (.pointer p1)) (.iface t2 (.pointer p2)) s13 s14 wx)
  case first =>
    obtain ⟨a0, a1, a2, a3, a4⟩ := HA
    clear HB V2 V3 B Z
    have hlA : bA < W.heap.size := World.block_lt_of_cell? _ _ a0
    go_region
    all_goals
      go_wp2_with fail
      go_meet
      first
        | exact ⟨W.heap.size, W.heap.size + 1, rfl, rfl, ⟨by simp [go_sem], by simp [go_sem], by simp [go_sem], by simp [go_sem]⟩, ⟨by simp [go_sem], by simp [go_sem], by simp [go_sem], by simp [go_sem]⟩, by omega, by omega, by omega, by simp; try omega, by simp; try omega, (by repeat (first | exact Below.refl _ _ | apply Below.drew | (refine below_drewN ?_ _) | (refine Below.alloc ?_ (by simp; try omega) _) | (refine Below.setCell ?_ (by simp; try omega) _)))⟩
        | exact ⟨W.heap.size + 1, W.heap.size, rfl, rfl, ⟨by simp [go_sem], by simp [go_sem], by simp [go_sem], by simp [go_sem]⟩, ⟨by simp [go_sem], by simp [go_sem], by simp [go_sem], by simp [go_sem]⟩, by omega, by omega, by omega, by simp; try omega, by simp; try omega, (by repeat (first | exact Below.refl _ _ | apply Below.drew | (refine below_drewN ?_ _) | (refine Below.alloc ?_ (by simp; try omega) _) | (refine Below.setCell ?_ (by simp; try omega) _)))⟩
  case rest =>
  rename World => wx
  obtain ⟨x, y, rfl, rfl, Vx, Vy, hxy, hx1, hy1, hx2, hy2, B1⟩ := hcut
  have HA1 := Bin.below HA B1
  have HB1 := Bin.below HB B1
  have V2a := V2.below B1 (by omega)
  have V3a := V3.below B1 (by omega)
  have Z1 : w.heap.size + 4 ≤ wx.heap.size := by have := B1.size; omega
  have BW : Below w.heap.size w wx := B.trans (B1.mono B.size)
  have hx3 : w.heap.size + 4 ≤ x := by omega
  have hy3 : w.heap.size + 4 ≤ y := by omega
  clear HA HB V2 V3 B Z hx1 hy1 B1
  go_upto_region 6 with fail
  go_cut [15, 16] (fun s15 s16 wz => Two wx (.iface t3 (.pointer p3)) (.iface t4 (.pointer p4)) s15 s16 wz)
  case first =>
    obtain ⟨c0, c1, c2, c3, c4⟩ := HB1
    clear HA1 V2a V3a BW Z1
    have hlB : bB < wx.heap.size := World.block_lt_of_cell? _ _ c0
    go_region
    all_goals
      go_wp2_with fail
      go_meet
      first
        | exact ⟨wx.heap.size, wx.heap.size + 1, rfl, rfl, ⟨by simp [go_sem], by simp [go_sem], by simp [go_sem], by simp [go_sem]⟩, ⟨by simp [go_sem], by simp [go_sem], by simp [go_sem], by simp [go_sem]⟩, by omega, by omega, by omega, by simp; try omega, by simp; try omega, (by repeat (first | exact Below.refl _ _ | apply Below.drew | (refine below_drewN ?_ _) | (refine Below.alloc ?_ (by simp; try omega) _) | (refine Below.setCell ?_ (by simp; try omega) _)))⟩
        | exact ⟨wx.heap.size + 1, wx.heap.size, rfl, rfl, ⟨by simp [go_sem], by simp [go_sem], by simp [go_sem], by simp [go_sem]⟩, ⟨by simp [go_sem], by simp [go_sem], by simp [go_sem], by simp [go_sem]⟩, by omega, by omega, by omega, by simp; try omega, by simp; try omega, (by repeat (first | exact Below.refl _ _ | apply Below.drew | (refine below_drewN ?_ _) | (refine Below.alloc ?_ (by simp; try omega) _) | (refine Below.setCell ?_ (by simp; try omega) _)))⟩
  case rest =>
  rename World => wz
  obtain ⟨z, u, rfl, rfl, Vz, Vu, hzu, hz1, hu1, hz2, hu2, B2⟩ := hcut
  have HA2 := Bin.below HA1 B2
  have HB2 := Bin.below HB1 B2
  obtain ⟨d0, d1, d2, d3⟩ := Var.below V2a B2 (by omega)
  obtain ⟨e0, e1, e2, e3⟩ := Var.below V3a B2 (by omega)
  obtain ⟨x0, x1, x2, x3⟩ := Var.below Vx B2 hx2
  obtain ⟨y0, y1, y2, y3⟩ := Var.below Vy B2 hy2
  obtain ⟨z0, z1, z2, z3⟩ := Vz
  obtain ⟨u0, u1, u2, u3⟩ := Vu
  obtain ⟨a0, a1, a2, a3, a4⟩ := HA2
  obtain ⟨c0, c1, c2, c3, c4⟩ := HB2
  have BZ : Below w.heap.size w wz := BW.trans (B2.mono BW.size)
  have q1 : ¬ x = y := hxy
  have q2 : ¬ y = x := by omega
  have q3 : ¬ z = u := hzu
  have q4 : ¬ u = z := by omega
  have q5 : ¬ x = z := by omega
  have q6 : ¬ z = x := by omega
  have q7 : ¬ x = u := by omega
  have q8 : ¬ u = x := by omega
  have q9 : ¬ y = z := by omega
  have q10 : ¬ z = y := by omega
  have q11 : ¬ y = u := by omega
  have q12 : ¬ u = y := by omega
  have hbA : bA < w.heap.size := by assumption
  have hbB : bB < w.heap.size := by assumption
  have q_bA_x : ¬ bA = x := by omega
  have q_bA_y : ¬ bA = y := by omega
  have q_bA_z : ¬ bA = z := by omega
  have q_bA_u : ¬ bA = u := by omega
  have q_bB_x : ¬ bB = x := by omega
  have q_bB_y : ¬ bB = y := by omega
  have q_bB_z : ¬ bB = z := by omega
  have q_bB_u : ¬ bB = u := by omega
  have q_2_x : ¬ w.heap.size + 2 = x := by omega
  have p_2_x : ¬ x = w.heap.size + 2 := by omega
  have q_2_y : ¬ w.heap.size + 2 = y := by omega
  have p_2_y : ¬ y = w.heap.size + 2 := by omega
  have q_2_z : ¬ w.heap.size + 2 = z := by omega
  have p_2_z : ¬ z = w.heap.size + 2 := by omega
  have q_2_u : ¬ w.heap.size + 2 = u := by omega
  have p_2_u : ¬ u = w.heap.size + 2 := by omega
  have q_3_x : ¬ w.heap.size + 3 = x := by omega
  have p_3_x : ¬ x = w.heap.size + 3 := by omega
  have q_3_y : ¬ w.heap.size + 3 = y := by omega
  have p_3_y : ¬ y = w.heap.size + 3 := by omega
  have q_3_z : ¬ w.heap.size + 3 = z := by omega
  have p_3_z : ¬ z = w.heap.size + 3 := by omega
  have q_3_u : ¬ w.heap.size + 3 = u := by omega
  have p_3_u : ¬ u = w.heap.size + 3 := by omega
  have q_bA_2 : ¬ bA = w.heap.size + 2 := by omega
  have q_bA_3 : ¬ bA = w.heap.size + 3 := by omega
  have q_bB_2 : ¬ bB = w.heap.size + 2 := by omega
  have q_bB_3 : ¬ bB = w.heap.size + 3 := by omega
  clear HA1 HB1 V2a V3a Vx Vy B2 BW hxy hzu
  go_wp2_with fail
  exact bodyPost_ret (v := .tuple #[.agg #[.nilIface, .int .i32 0], .agg #[.nilIface, .int .i32 0], .bool false]) (by simp [results, Try.results8, go_sem, *]) rfl ⟨rfl, by repeat (first | with_reducible exact BZ | (with_reducible refine below_drewN ?_ _) | (with_reducible refine Below.setCell ?_ (by show _ ≤ _; simp only []; omega) _))⟩

set_option maxRecDepth 100000 in
set_option maxHeartbeats 4000000 in
theorem cN_S (bA bB : Nat) (opL opR op : Int) (t1 : Nat) (p1 : Option Addr) (t2 : Nat) (p2 : Option Addr) (t3 : Nat) (p3 : Option Addr) (b4 : Nat) (r4 : Int) (w : World) (n1_43 : ¬ t1 = 43) (n2_43 : ¬ t2 = 43)  (i4 : w.cell? ⟨b4, 0, none⟩ = some (.int .u32 0)) (j4 : w.cell? ⟨b4, 1, none⟩ = some (.int .u32 r4)) (hA : Bin w bA (.iface t1 (.pointer p1)) 0 (.iface t2 (.pointer p2)) 0 opL) (hB : Bin w bB (.iface t3 (.pointer p3)) 0 (.iface 43 (.pointer (some ⟨b4, 0, none⟩))) 0 opR) (hl : (opL == op) = true) (hr : (opR == op) = true) :
    Calls Try.prog 8 #[.agg #[.iface 68 (.pointer (some ⟨bA, 0, none⟩)), .int .i32 0], .agg #[.iface 68 (.pointer (some ⟨bB, 0, none⟩)), .int .i32 0], .int .u8 op] w fun e w' => e = .returned (.tuple #[.agg #[.nilIface, .int .i32 0], .agg #[.nilIface, .int .i32 0], .bool false]) ∧ Below w.heap.size w w' := by
  obtain ⟨a0, a1, a2, a3, a4⟩ := hA
  obtain ⟨c0, c1, c2, c3, c4⟩ := hB
  have hltA : bA < w.heap.size := World.block_lt_of_cell? _ _ a0
  have hltB : bB < w.heap.size := World.block_lt_of_cell? _ _ c0
  have l4 : b4 < w.heap.size := World.block_lt_of_cell? _ _ i4
  have m_bA_1 : bA < w.heap.size + 1 := by omega
  have m_bA_2 : bA < w.heap.size + 1 + 1 := by omega
  have m_bA_3 : bA < w.heap.size + 1 + 1 + 1 := by omega
  have m_bA_4 : bA < w.heap.size + 1 + 1 + 1 + 1 := by omega
  have m_bA_5 : bA < w.heap.size + 1 + 1 + 1 + 1 + 1 := by omega
  have m_bA_6 : bA < w.heap.size + 1 + 1 + 1 + 1 + 1 + 1 := by omega
  have m_bA_7 : bA < w.heap.size + 1 + 1 + 1 + 1 + 1 + 1 + 1 := by omega
  have m_bA_8 : bA < w.heap.size + 1 + 1 + 1 + 1 + 1 + 1 + 1 + 1 := by omega
  have m_bB_1 : bB < w.heap.size + 1 := by omega
  have m_bB_2 : bB < w.heap.size + 1 + 1 := by omega
  have m_bB_3 : bB < w.heap.size + 1 + 1 + 1 := by omega
  have m_bB_4 : bB < w.heap.size + 1 + 1 + 1 + 1 := by omega
  have m_bB_5 : bB < w.heap.size + 1 + 1 + 1 + 1 + 1 := by omega
  have m_bB_6 : bB < w.heap.size + 1 + 1 + 1 + 1 + 1 + 1 := by omega
  have m_bB_7 : bB < w.heap.size + 1 + 1 + 1 + 1 + 1 + 1 + 1 := by omega
  have m_bB_8 : bB < w.heap.size + 1 + 1 + 1 + 1 + 1 + 1 + 1 + 1 := by omega
  go_enter Try.func8, Try.ntmps8
  go_upto_region 5 with fail
  obtain ⟨W, hW⟩ : ∃ W, W = (((w.alloc (Obj.cells #[.iface 68 (.pointer (some ⟨bA, 0, none⟩)), .int .i32 0] 28)).alloc (Obj.cells #[.iface 68 (.pointer (some ⟨bB, 0, none⟩)), .int .i32 0] 28)).alloc (Obj.cells #[.nilIface, .int .i32 0] 28)).alloc (Obj.cells #[.nilIface, .int .i32 0] 28) := ⟨_, rfl⟩
  rw [← hW]
  have B : Below w.heap.size w W := by rw [hW]; exact ((((Below.refl _ _).alloc (Nat.le_refl _) _).alloc (by simp) _).alloc (by simp; omega) _).alloc (by simp; omega) _
  have Z : W.heap.size = w.heap.size + 4 := by rw [hW]; simp
  have V2 : Var W (w.heap.size + 2) .nilIface := by rw [hW]; exact ⟨by simp [go_sem], by simp [go_sem], by simp [go_sem], by simp [go_sem]⟩
  have V3 : Var W (w.heap.size + 3) .nilIface := by rw [hW]; exact ⟨by simp [go_sem], by simp [go_sem], by simp [go_sem], by simp [go_sem]⟩
  have HA : Bin W bA (.iface t1 (.pointer p1)) 0 (.iface t2 (.pointer p2)) 0 opL := Bin.below ⟨a0, a1, a2, a3, a4⟩ B
  have HB : Bin W bB (.iface t3 (.pointer p3)) 0 (.iface 43 (.pointer (some ⟨b4, 0, none⟩))) 0 opR := Bin.below ⟨c0, c1, c2, c3, c4⟩ B
  have i4a := kept B i4
  have j4a := kept B j4
  have E := Lib.hid hW
  clear hW E a0 a1 a2 a3 a4 c0 c1 c2 c3 c4 m_bA_1 m_bA_2 m_bA_3 m_bA_4 m_bA_5 m_bA_6 m_bA_7 m_bA_8 m_bB_1 m_bB_2 m_bB_3 m_bB_4 m_bB_5 m_bB_6 m_bB_7 m_bB_8
  go_cut [13, 14] (fun s13 s14 wx => Two W (.iface t1 (.pointer p1)) (.iface t2 (.pointer p2)) s13 s14 wx)
  case first =>
    obtain ⟨a0, a1, a2, a3, a4⟩ := HA
    clear HB V2 V3 B Z
    have hlA : bA < W.heap.size := World.block_lt_of_cell? _ _ a0
    go_region
    all_goals
      go_wp2_with fail
      go_meet
      first
        | exact ⟨W.heap.size, W.heap.size + 1, rfl, rfl, ⟨by simp [go_sem], by simp [go_sem], by simp [go_sem], by simp [go_sem]⟩, ⟨by simp [go_sem], by simp [go_sem], by simp [go_sem], by simp [go_sem]⟩, by omega, by omega, by omega, by simp; try omega, by simp; try omega, (by repeat (first | exact Below.refl _ _ | apply Below.drew | (refine below_drewN ?_ _) | (refine Below.alloc ?_ (by simp; try omega) _) | (refine Below.setCell ?_ (by simp; try omega) _)))⟩
        | exact ⟨W.heap.size + 1, W.heap.size, rfl, rfl, ⟨by simp [go_sem], by simp [go_sem], by simp [go_sem], by simp [go_sem]⟩, ⟨by simp [go_sem], by simp [go_sem], by simp [go_sem], by simp [go_sem]⟩, by omega, by omega, by omega, by simp; try omega, by simp; try omega, (by repeat (first | exact Below.refl _ _ | apply Below.drew | (refine below_drewN ?_ _) | (refine Below.alloc ?_ (by simp; try omega) _) | (refine Below.setCell ?_ (by simp; try omega) _)))⟩
  case rest =>
  rename World => wx
  obtain ⟨x, y, rfl, rfl, Vx, Vy, hxy, hx1, hy1, hx2, hy2, B1⟩ := hcut
  have HA1 := Bin.below HA B1
  have HB1 := Bin.below HB B1
  have V2a := V2.below B1 (by omega)
  have V3a := V3.below B1 (by omega)
  have Z1 : w.heap.size + 4 ≤ wx.heap.size := by have := B1.size; omega
  have BW : Below w.heap.size w wx := B.trans (B1.mono B.size)
  have hx3 : w.heap.size + 4 ≤ x := by omega
  have hy3 : w.heap.size + 4 ≤ y := by omega
  have i4b := kept B1 i4a
  have j4b := kept B1 j4a
  clear HA HB V2 V3 B Z hx1 hy1 B1
  go_upto_region 6 with fail
  go_cut [15, 16] (fun s15 s16 wz => Two wx (.iface t3 (.pointer p3)) (.iface 43 (.pointer (some ⟨b4, 0, none⟩))) s15 s16 wz)
  case first =>
    obtain ⟨c0, c1, c2, c3, c4⟩ := HB1
    clear HA1 V2a V3a BW Z1
    have hlB : bB < wx.heap.size := World.block_lt_of_cell? _ _ c0
    go_region
    all_goals
      go_wp2_with fail
      go_meet
      first
        | exact ⟨wx.heap.size, wx.heap.size + 1, rfl, rfl, ⟨by simp [go_sem], by simp [go_sem], by simp [go_sem], by simp [go_sem]⟩, ⟨by simp [go_sem], by simp [go_sem], by simp [go_sem], by simp [go_sem]⟩, by omega, by omega, by omega, by simp; try omega, by simp; try omega, (by repeat (first | exact Below.refl _ _ | apply Below.drew | (refine below_drewN ?_ _) | (refine Below.alloc ?_ (by simp; try omega) _) | (refine Below.setCell ?_ (by simp; try omega) _)))⟩
        | exact ⟨wx.heap.size + 1, wx.heap.size, rfl, rfl, ⟨by simp [go_sem], by simp [go_sem], by simp [go_sem], by simp [go_sem]⟩, ⟨by simp [go_sem], by simp [go_sem], by simp [go_sem], by simp [go_sem]⟩, by omega, by omega, by omega, by simp; try omega, by simp; try omega, (by repeat (first | exact Below.refl _ _ | apply Below.drew | (refine below_drewN ?_ _) | (refine Below.alloc ?_ (by simp; try omega) _) | (refine Below.setCell ?_ (by simp; try omega) _)))⟩
  case rest =>
  rename World => wz
  obtain ⟨z, u, rfl, rfl, Vz, Vu, hzu, hz1, hu1, hz2, hu2, B2⟩ := hcut
  have HA2 := Bin.below HA1 B2
  have HB2 := Bin.below HB1 B2
  obtain ⟨d0, d1, d2, d3⟩ := Var.below V2a B2 (by omega)
  obtain ⟨e0, e1, e2, e3⟩ := Var.below V3a B2 (by omega)
  obtain ⟨x0, x1, x2, x3⟩ := Var.below Vx B2 hx2
  obtain ⟨y0, y1, y2, y3⟩ := Var.below Vy B2 hy2
  obtain ⟨z0, z1, z2, z3⟩ := Vz
  obtain ⟨u0, u1, u2, u3⟩ := Vu
  obtain ⟨a0, a1, a2, a3, a4⟩ := HA2
  obtain ⟨c0, c1, c2, c3, c4⟩ := HB2
  have BZ : Below w.heap.size w wz := BW.trans (B2.mono BW.size)
  have q1 : ¬ x = y := hxy
  have q2 : ¬ y = x := by omega
  have q3 : ¬ z = u := hzu
  have q4 : ¬ u = z := by omega
  have q5 : ¬ x = z := by omega
  have q6 : ¬ z = x := by omega
  have q7 : ¬ x = u := by omega
  have q8 : ¬ u = x := by omega
  have q9 : ¬ y = z := by omega
  have q10 : ¬ z = y := by omega
  have q11 : ¬ y = u := by omega
  have q12 : ¬ u = y := by omega
  have hbA : bA < w.heap.size := by assumption
  have hbB : bB < w.heap.size := by assumption
  have q_bA_x : ¬ bA = x := by omega
  have q_bA_y : ¬ bA = y := by omega
  have q_bA_z : ¬ bA = z := by omega
  have q_bA_u : ¬ bA = u := by omega
  have q_bB_x : ¬ bB = x := by omega
  have q_bB_y : ¬ bB = y := by omega
  have q_bB_z : ¬ bB = z := by omega
  have q_bB_u : ¬ bB = u := by omega
  have q_b4_x : ¬ b4 = x := by omega
  have q_b4_y : ¬ b4 = y := by omega
  have q_b4_z : ¬ b4 = z := by omega
  have q_b4_u : ¬ b4 = u := by omega
  have q_2_x : ¬ w.heap.size + 2 = x := by omega
  have p_2_x : ¬ x = w.heap.size + 2 := by omega
  have q_2_y : ¬ w.heap.size + 2 = y := by omega
  have p_2_y : ¬ y = w.heap.size + 2 := by omega
  have q_2_z : ¬ w.heap.size + 2 = z := by omega
  have p_2_z : ¬ z = w.heap.size + 2 := by omega
  have q_2_u : ¬ w.heap.size + 2 = u := by omega
  have p_2_u : ¬ u = w.heap.size + 2 := by omega
  have q_3_x : ¬ w.heap.size + 3 = x := by omega
  have p_3_x : ¬ x = w.heap.size + 3 := by omega
  have q_3_y : ¬ w.heap.size + 3 = y := by omega
  have p_3_y : ¬ y = w.heap.size + 3 := by omega
  have q_3_z : ¬ w.heap.size + 3 = z := by omega
  have p_3_z : ¬ z = w.heap.size + 3 := by omega
  have q_3_u : ¬ w.heap.size + 3 = u := by omega
  have p_3_u : ¬ u = w.heap.size + 3 := by omega
  have q_bA_2 : ¬ bA = w.heap.size + 2 := by omega
  have q_bA_3 : ¬ bA = w.heap.size + 3 := by omega
  have q_bB_2 : ¬ bB = w.heap.size + 2 := by omega
  have q_bB_3 : ¬ bB = w.heap.size + 3 := by omega
  have q_b4_2 : ¬ b4 = w.heap.size + 2 := by omega
  have q_b4_3 : ¬ b4 = w.heap.size + 3 := by omega
  have i4c := kept B2 i4b
  have j4c := kept B2 j4b
  clear HA1 HB1 V2a V3a Vx Vy B2 BW hxy hzu
  go_wp2_with fail
  exact bodyPost_ret (v := .tuple #[.agg #[.nilIface, .int .i32 0], .agg #[.nilIface, .int .i32 0], .bool false]) (by simp [results, Try.results8, go_sem, *]) rfl ⟨rfl, by repeat (first | with_reducible exact BZ | (with_reducible refine below_drewN ?_ _) | (with_reducible refine Below.setCell ?_ (by show _ ≤ _; simp only []; omega) _))⟩

set_option maxRecDepth 100000 in
set_option maxHeartbeats 4000000 in
theorem cF_N (bA bB : Nat) (opL opR op : Int) (b1 : Nat) (r1 : Int) (t2 : Nat) (p2 : Option Addr) (t3 : Nat) (p3 : Option Addr) (t4 : Nat) (p4 : Option Addr) (w : World) (i1 : w.cell? ⟨b1, 0, none⟩ = some (.int .u32 0)) (j1 : w.cell? ⟨b1, 1, none⟩ = some (.int .u32 r1)) (n2_43 : ¬ t2 = 43) (n3_43 : ¬ t3 = 43) (n4_43 : ¬ t4 = 43) (hA : Bin w bA (.iface 43 (.pointer (some ⟨b1, 0, none⟩))) 0 (.iface t2 (.pointer p2)) 0 opL) (hB : Bin w bB (.iface t3 (.pointer p3)) 0 (.iface t4 (.pointer p4)) 0 opR) (hl : (opL == op) = true) (hr : (opR == op) = true) :
    Calls Try.prog 8 #[.agg #[.iface 68 (.pointer (some ⟨bA, 0, none⟩)), .int .i32 0], .agg #[.iface 68 (.pointer (some ⟨bB, 0, none⟩)), .int .i32 0], .int .u8 op] w fun e w' => e = .returned (.tuple #[.agg #[.nilIface, .int .i32 0], .agg #[.nilIface, .int .i32 0], .bool false]) ∧ Below w.heap.size w w' := by
  obtain ⟨a0, a1, a2, a3, a4⟩ := hA
  obtain ⟨c0, c1, c2, c3, c4⟩ := hB
  have hltA : bA < w.heap.size := World.block_lt_of_cell? _ _ a0
  have hltB : bB < w.heap.size := World.block_lt_of_cell? _ _ c0
  have l1 : b1 < w.heap.size := World.block_lt_of_cell? _ _ i1
  have m_bA_1 : bA < w.heap.size + 1 := by omega
  have m_bA_2 : bA < w.heap.size + 1 + 1 := by omega
  have m_bA_3 : bA < w.heap.size + 1 + 1 + 1 := by omega
  have m_bA_4 : bA < w.heap.size + 1 + 1 + 1 + 1 := by omega
  have m_bA_5 : bA < w.heap.size + 1 + 1 + 1 + 1 + 1 := by omega
  have m_bA_6 : bA < w.heap.size + 1 + 1 + 1 + 1 + 1 + 1 := by omega
  have m_bA_7 : bA < w.heap.size + 1 + 1 + 1 + 1 + 1 + 1 + 1 := by omega
  have m_bA_8 : bA < w.heap.size + 1 + 1 + 1 + 1 + 1 + 1 + 1 + 1 := by omega
  have m_bB_1 : bB < w.heap.size + 1 := by omega
  have m_bB_2 : bB < w.heap.size + 1 + 1 := by omega
  have m_bB_3 : bB < w.heap.size + 1 + 1 + 1 := by omega
  have m_bB_4 : bB < w.heap.size + 1 + 1 + 1 + 1 := by omega
  have m_bB_5 : bB < w.heap.size + 1 + 1 + 1 + 1 + 1 := by omega
  have m_bB_6 : bB < w.heap.size + 1 + 1 + 1 + 1 + 1 + 1 := by omega
  have m_bB_7 : bB < w.heap.size + 1 + 1 + 1 + 1 + 1 + 1 + 1 := by omega
  have m_bB_8 : bB < w.heap.size + 1 + 1 + 1 + 1 + 1 + 1 + 1 + 1 := by omega
  go_enter Try.func8, Try.ntmps8
  go_upto_region 5 with fail
  obtain ⟨W, hW⟩ : ∃ W, W = (((w.alloc (Obj.cells #[.iface 68 (.pointer (some ⟨bA, 0, none⟩)), .int .i32 0] 28)).alloc (Obj.cells #[.iface 68 (.pointer (some ⟨bB, 0, none⟩)), .int .i32 0] 28)).alloc (Obj.cells #[.nilIface, .int .i32 0] 28)).alloc (Obj.cells #[.nilIface, .int .i32 0] 28) := ⟨_, rfl⟩
  rw [← hW]
  have B : Below w.heap.size w W := by rw [hW]; exact ((((Below.refl _ _).alloc (Nat.le_refl _) _).alloc (by simp) _).alloc (by simp; omega) _).alloc (by simp; omega) _
  have Z : W.heap.size = w.heap.size + 4 := by rw [hW]; simp
  have V2 : Var W (w.heap.size + 2) .nilIface := by rw [hW]; exact ⟨by simp [go_sem], by simp [go_sem], by simp [go_sem], by simp [go_sem]⟩
  have V3 : Var W (w.heap.size + 3) .nilIface := by rw [hW]; exact ⟨by simp [go_sem], by simp [go_sem], by simp [go_sem], by simp [go_sem]⟩
  have HA : Bin W bA (.iface 43 (.pointer (some ⟨b1, 0, none⟩))) 0 (.iface t2 (.pointer p2)) 0 opL := Bin.below ⟨a0, a1, a2, a3, a4⟩ B
  have HB : Bin W bB (.iface t3 (.pointer p3)) 0 (.iface t4 (.pointer p4)) 0 opR := Bin.below ⟨c0, c1, c2, c3, c4⟩ B
  have i1a := kept B i1
  have j1a := kept B j1
  have E := Lib.hid hW
  clear hW E a0 a1 a2 a3 a4 c0 c1 c2 c3 c4 m_bA_1 m_bA_2 m_bA_3 m_bA_4 m_bA_5 m_bA_6 m_bA_7 m_bA_8 m_bB_1 m_bB_2 m_bB_3 m_bB_4 m_bB_5 m_bB_6 m_bB_7 m_bB_8
  go_cut [13, 14] (fun s13 s14 wx => Two W (.iface 43 (.pointer (some ⟨b1, 0, none⟩))) (.iface t2 (.pointer p2)) s13 s14 wx)
  case first =>
    obtain ⟨a0, a1, a2, a3, a4⟩ := HA
    clear HB V2 V3 B Z
    have hlA : bA < W.heap.size := World.block_lt_of_cell? _ _ a0
    go_region
    all_goals
      go_wp2_with fail
      go_meet
      first
        | exact ⟨W.heap.size, W.heap.size + 1, rfl, rfl, ⟨by simp [go_sem], by simp [go_sem], by simp [go_sem], by simp [go_sem]⟩, ⟨by simp [go_sem], by simp [go_sem], by simp [go_sem], by simp [go_sem]⟩, by omega, by omega, by omega, by simp; try omega, by simp; try omega, (by repeat (first | exact Below.refl _ _ | apply Below.drew | (refine below_drewN ?_ _) | (refine Below.alloc ?_ (by simp; try omega) _) | (refine Below.setCell ?_ (by simp; try omega) _)))⟩
        | exact ⟨W.heap.size + 1, W.heap.size, rfl, rfl, ⟨by simp [go_sem], by simp [go_sem], by simp [go_sem], by simp [go_sem]⟩, ⟨by simp [go_sem], by simp [go_sem], by simp [go_sem], by simp [go_sem]⟩, by omega, by omega, by omega, by simp; try omega, by simp; try omega, (by repeat (first | exact Below.refl _ _ | apply Below.drew | (refine below_drewN ?_ _) | (refine Below.alloc ?_ (by simp; try omega) _) | (refine Below.setCell ?_ (by simp; try omega) _)))⟩
  case rest =>
  rename World => wx
  obtain ⟨x, y, rfl, rfl, Vx, Vy, hxy, hx1, hy1, hx2, hy2, B1⟩ := hcut
  have HA1 := Bin.below HA B1
  have HB1 := Bin.below HB B1
  have V2a := V2.below B1 (by omega)
  have V3a := V3.below B1 (by omega)
  have Z1 : w.heap.size + 4 ≤ wx.heap.size := by have := B1.size; omega
  have BW : Below w.heap.size w wx := B.trans (B1.mono B.size)
  have hx3 : w.heap.size + 4 ≤ x := by omega
  have hy3 : w.heap.size + 4 ≤ y := by omega
  have i1b := kept B1 i1a
  have j1b := kept B1 j1a
  clear HA HB V2 V3 B Z hx1 hy1 B1
  go_upto_region 6 with fail
  go_cut [15, 16] (fun s15 s16 wz => Two wx (.iface t3 (.pointer p3)) (.iface t4 (.pointer p4)) s15 s16 wz)
  case first =>
    obtain ⟨c0, c1, c2, c3, c4⟩ := HB1
    clear HA1 V2a V3a BW Z1
    have hlB : bB < wx.heap.size := World.block_lt_of_cell? _ _ c0
    go_region
    all_goals
      go_wp2_with fail
      go_meet
      first
        | exact ⟨wx.heap.size, wx.heap.size + 1, rfl, rfl, ⟨by simp [go_sem], by simp [go_sem], by simp [go_sem], by simp [go_sem]⟩, ⟨by simp [go_sem], by simp [go_sem], by simp [go_sem], by simp [go_sem]⟩, by omega, by omega, by omega, by simp; try omega, by simp; try omega, (by repeat (first | exact Below.refl _ _ | apply Below.drew | (refine below_drewN ?_ _) | (refine Below.alloc ?_ (by simp; try omega) _) | (refine Below.setCell ?_ (by simp; try omega) _)))⟩
        | exact ⟨wx.heap.size + 1, wx.heap.size, rfl, rfl, ⟨by simp [go_sem], by simp [go_sem], by simp [go_sem], by simp [go_sem]⟩, ⟨by simp [go_sem], by simp [go_sem], by simp [go_sem], by simp [go_sem]⟩, by omega, by omega, by omega, by simp; try omega, by simp; try omega, (by repeat (first | exact Below.refl _ _ | apply Below.drew | (refine below_drewN ?_ _) | (refine Below.alloc ?_ (by simp; try omega) _) | (refine Below.setCell ?_ (by simp; try omega) _)))⟩
  case rest =>
  rename World => wz
  obtain ⟨z, u, rfl, rfl, Vz, Vu, hzu, hz1, hu1, hz2, hu2, B2⟩ := hcut
  have HA2 := Bin.below HA1 B2
  have HB2 := Bin.below HB1 B2
  obtain ⟨d0, d1, d2, d3⟩ := Var.below V2a B2 (by omega)
  obtain ⟨e0, e1, e2, e3⟩ := Var.below V3a B2 (by omega)
  obtain ⟨x0, x1, x2, x3⟩ := Var.below Vx B2 hx2
  obtain ⟨y0, y1, y2, y3⟩ := Var.below Vy B2 hy2
  obtain ⟨z0, z1, z2, z3⟩ := Vz
  obtain ⟨u0, u1, u2, u3⟩ := Vu
  obtain ⟨a0, a1, a2, a3, a4⟩ := HA2
  obtain ⟨c0, c1, c2, c3, c4⟩ := HB2
  have BZ : Below w.heap.size w wz := BW.trans (B2.mono BW.size)
  have q1 : ¬ x = y := hxy
  have q2 : ¬ y = x := by omega
  have q3 : ¬ z = u := hzu
  have q4 : ¬ u = z := by omega
  have q5 : ¬ x = z := by omega
  have q6 : ¬ z = x := by omega
  have q7 : ¬ x = u := by omega
  have q8 : ¬ u = x := by omega
  have q9 : ¬ y = z := by omega
  have q10 : ¬ z = y := by omega
  have q11 : ¬ y = u := by omega
  have q12 : ¬ u = y := by omega
  have hbA : bA < w.heap.size := by assumption
  have hbB : bB < w.heap.size := by assumption
  have q_bA_x : ¬ bA = x := by omega
  have q_bA_y : ¬ bA = y := by omega
  have q_bA_z : ¬ bA = z := by omega
  have q_bA_u : ¬ bA = u := by omega
  have q_bB_x : ¬ bB = x := by omega
  have q_bB_y : ¬ bB = y := by omega
  have q_bB_z : ¬ bB = z := by omega
  have q_bB_u : ¬ bB = u := by omega
  have q_b1_x : ¬ b1 = x := by omega
  have q_b1_y : ¬ b1 = y := by omega
  have q_b1_z : ¬ b1 = z := by omega
  have q_b1_u : ¬ b1 = u := by omega
  have q_2_x : ¬ w.heap.size + 2 = x := by omega
  have p_2_x : ¬ x = w.heap.size + 2 := by omega
  have q_2_y : ¬ w.heap.size + 2 = y := by omega
  have p_2_y : ¬ y = w.heap.size + 2 := by omega
  have q_2_z : ¬ w.heap.size + 2 = z := by omega
  have p_2_z : ¬ z = w.heap.size + 2 := by omega
  have q_2_u : ¬ w.heap.size + 2 = u := by omega
  have p_2_u : ¬ u = w.heap.size + 2 := by omega
  have q_3_x : ¬ w.heap.size + 3 = x := by omega
  have p_3_x : ¬ x = w.heap.size + 3 := by omega
  have q_3_y : ¬ w.heap.size + 3 = y := by omega
  have p_3_y : ¬ y = w.heap.size + 3 := by omega
  have q_3_z : ¬ w.heap.size + 3 = z := by omega
  have p_3_z : ¬ z = w.heap.size + 3 := by omega
  have q_3_u : ¬ w.heap.size + 3 = u := by omega
  have p_3_u : ¬ u = w.heap.size + 3 := by omega
  have q_bA_2 : ¬ bA = w.heap.size + 2 := by omega
  have q_bA_3 : ¬ bA = w.heap.size + 3 := by omega
  have q_bB_2 : ¬ bB = w.heap.size + 2 := by omega
  have q_bB_3 : ¬ bB = w.heap.size + 3 := by omega
  have q_b1_2 : ¬ b1 = w.heap.size + 2 := by omega
  have q_b1_3 : ¬ b1 = w.heap.size + 3 := by omega
  have i1c := kept B2 i1b
  have j1c := kept B2 j1b
  clear HA1 HB1 V2a V3a Vx Vy B2 BW hxy hzu
  go_wp2_with fail
  go_quiet (fail)
  go_wp2_with fail
  exact bodyPost_ret (v := .tuple #[.agg #[.nilIface, .int .i32 0], .agg #[.nilIface, .int .i32 0], .bool false]) (by simp [results, Try.results8, go_sem, *]) rfl ⟨rfl, by repeat (first | with_reducible exact BZ | (with_reducible refine below_drewN ?_ _) | (with_reducible refine Below.setCell ?_ (by show _ ≤ _; simp only []; omega) _))⟩

set_option maxRecDepth 100000 in
set_option maxHeartbeats 4000000 in
theorem cS_N (bA bB : Nat) (opL opR op : Int) (t1 : Nat) (p1 : Option Addr) (b2 : Nat) (r2 : Int) (t3 : Nat) (p3 : Option Addr) (t4 : Nat) (p4 : Option Addr) (w : World)  (i2 : w.cell? ⟨b2, 0, none⟩ = some (.int .u32 0)) (j2 : w.cell? ⟨b2, 1, none⟩ = some (.int .u32 r2)) (n3_43 : ¬ t3 = 43) (n4_43 : ¬ t4 = 43) (hA : Bin w bA (.iface t1 (.pointer p1)) 0 (.iface 43 (.pointer (some ⟨b2, 0, none⟩))) 0 opL) (hB : Bin w bB (.iface t3 (.pointer p3)) 0 (.iface t4 (.pointer p4)) 0 opR) (hl : (opL == op) = true) (hr : (opR == op) = true) :
    Calls Try.prog 8 #[.agg #[.iface 68 (.pointer (some ⟨bA, 0, none⟩)), .int .i32 0], .agg #[.iface 68 (.pointer (some ⟨bB, 0, none⟩)), .int .i32 0], .int .u8 op] w fun e w' => e = .returned (.tuple #[.agg #[.nilIface, .int .i32 0], .agg #[.nilIface, .int .i32 0], .bool false]) ∧ Below w.heap.size w w' := by
  obtain ⟨a0, a1, a2, a3, a4⟩ := hA
  obtain ⟨c0, c1, c2, c3, c4⟩ := hB
  have hltA : bA < w.heap.size := World.block_lt_of_cell? _ _ a0
  have hltB : bB < w.heap.size := World.block_lt_of_cell? _ _ c0
  have l2 : b2 < w.heap.size := World.block_lt_of_cell? _ _ i2
  have m_bA_1 : bA < w.heap.size + 1 := by omega
  have m_bA_2 : bA < w.heap.size + 1 + 1 := by omega
  have m_bA_3 : bA < w.heap.size + 1 + 1 + 1 := by omega
  have m_bA_4 : bA < w.heap.size + 1 + 1 + 1 + 1 := by omega
  have m_bA_5 : bA < w.heap.size + 1 + 1 + 1 + 1 + 1 := by omega
  have m_bA_6 : bA < w.heap.size + 1 + 1 + 1 + 1 + 1 + 1 := by omega
  have m_bA_7 : bA < w.heap.size + 1 + 1 + 1 + 1 + 1 + 1 + 1 := by omega
  have m_bA_8 : bA < w.heap.size + 1 + 1 + 1 + 1 + 1 + 1 + 1 + 1 := by omega
  have m_bB_1 : bB < w.heap.size + 1 := by omega
  have m_bB_2 : bB < w.heap.size + 1 + 1 := by omega
  have m_bB_3 : bB < w.heap.size + 1 + 1 + 1 := by omega
  have m_bB_4 : bB < w.heap.size + 1 + 1 + 1 + 1 := by omega
  have m_bB_5 : bB < w.heap.size + 1 + 1 + 1 + 1 + 1 := by omega
  have m_bB_6 : bB < w.heap.size + 1 + 1 + 1 + 1 + 1 + 1 := by omega
  have m_bB_7 : bB < w.heap.size + 1 + 1 + 1 + 1 + 1 + 1 + 1 := by omega
  have m_bB_8 : bB < w.heap.size + 1 + 1 + 1 + 1 + 1 + 1 + 1 + 1 := by omega
  go_enter Try.func8, Try.ntmps8
  go_upto_region 5 with fail
  obtain ⟨W, hW⟩ : ∃ W, W = (((w.alloc (Obj.cells #[.iface 68 (.pointer (some ⟨bA, 0, none⟩)), .int .i32 0] 28)).alloc (Obj.cells #[.iface 68 (.pointer (some ⟨bB, 0, none⟩)), .int .i32 0] 28)).alloc (Obj.cells #[.nilIface, .int .i32 0] 28)).alloc (Obj.cells #[.nilIface, .int .i32 0] 28) := ⟨_, rfl⟩
  rw [← hW]
  have B : Below w.heap.size w W := by rw [hW]; exact ((((Below.refl _ _).alloc (Nat.le_refl _) _).alloc (by simp) _).alloc (by simp; omega) _).alloc (by simp; omega) _
  have Z : W.heap.size = w.heap.size + 4 := by rw [hW]; simp
  have V2 : Var W (w.heap.size + 2) .nilIface := by rw [hW]; exact ⟨by simp [go_sem], by simp [go_sem], by simp [go_sem], by simp [go_sem]⟩
  have V3 : Var W (w.heap.size + 3) .nilIface := by rw [hW]; exact ⟨by simp [go_sem], by simp [go_sem], by simp [go_sem], by simp [go_sem]⟩
  have HA : Bin W bA (.iface t1 (.pointer p1)) 0 (.iface 43 (.pointer (some ⟨b2, 0, none⟩))) 0 opL := Bin.below ⟨a0, a1, a2, a3, a4⟩ B
  have HB : Bin W bB (.iface t3 (.pointer p3)) 0 (.iface t4 (.pointer p4)) 0 opR := Bin.below ⟨c0, c1, c2, c3, c4⟩ B
  have i2a := kept B i2
  have j2a := kept B j2
  have E := Lib.hid hW
  clear hW E a0 a1 a2 a3 a4 c0 c1 c2 c3 c4 m_bA_1 m_bA_2 m_bA_3 m_bA_4 m_bA_5 m_bA_6 m_bA_7 m_bA_8 m_bB_1 m_bB_2 m_bB_3 m_bB_4 m_bB_5 m_bB_6 m_bB_7 m_bB_8
  go_cut [13, 14] (fun s13 s14 wx => Two W (.iface t1 (.pointer p1)) (.iface 43 (.pointer (some ⟨b2, 0, none⟩))) s13 s14 wx)
  case first =>
    obtain ⟨a0, a1, a2, a3, a4⟩ := HA
    clear HB V2 V3 B Z
    have hlA : bA < W.heap.size := World.block_lt_of_cell? _ _ a0
    go_region
    all_goals
      go_wp2_with fail
      go_meet
      first
        | exact ⟨W.heap.size, W.heap.size + 1, rfl, rfl, ⟨by simp [go_sem], by simp [go_sem], by simp [go_sem], by simp [go_sem]⟩, ⟨by simp [go_sem], by simp [go_sem], by simp [go_sem], by simp [go_sem]⟩, by omega, by omega, by omega, by simp; try omega, by simp; try omega, (by repeat (first | exact Below.refl _ _ | apply Below.drew | (refine below_drewN ?_ _) | (refine Below.alloc ?_ (by simp; try omega) _) | (refine Below.setCell ?_ (by simp; try omega) _)))⟩
        | exact ⟨W.heap.size + 1, W.heap.size, rfl, rfl, ⟨by simp [go_sem], by simp [go_sem], by simp [go_sem], by simp [go_sem]⟩, ⟨by simp [go_sem], by simp [go_sem], by simp [go_sem], by simp [go_sem]⟩, by omega, by omega, by omega, by simp; try omega, by simp; try omega, (by repeat (first | exact Below.refl _ _ | apply Below.drew | (refine below_drewN ?_ _) | (refine Below.alloc ?_ (by simp; try omega) _) | (refine Below.setCell ?_ (by simp; try omega) _)))⟩
  case rest =>
  rename World => wx
  obtain ⟨x, y, rfl, rfl, Vx, Vy, hxy, hx1, hy1, hx2, hy2, B1⟩ := hcut
  have HA1 := Bin.below HA B1
  have HB1 := Bin.below HB B1
  have V2a := V2.below B1 (by omega)
  have V3a := V3.below B1 (by omega)
  have Z1 : w.heap.size + 4 ≤ wx.heap.size := by have := B1.size; omega
  have BW : Below w.heap.size w wx := B.trans (B1.mono B.size)
  have hx3 : w.heap.size + 4 ≤ x := by omega
  have hy3 : w.heap.size + 4 ≤ y := by omega
  have i2b := kept B1 i2a
  have j2b := kept B1 j2a
  clear HA HB V2 V3 B Z hx1 hy1 B1
  go_upto_region 6 with fail
  go_cut [15, 16] (fun s15 s16 wz => Two wx (.iface t3 (.pointer p3)) (.iface t4 (.pointer p4)) s15 s16 wz)
  case first =>
    obtain ⟨c0, c1, c2, c3, c4⟩ := HB1
    clear HA1 V2a V3a BW Z1
    have hlB : bB < wx.heap.size := World.block_lt_of_cell? _ _ c0
    go_region
    all_goals
      go_wp2_with fail
      go_meet
      first
        | exact ⟨wx.heap.size, wx.heap.size + 1, rfl, rfl, ⟨by simp [go_sem], by simp [go_sem], by simp [go_sem], by simp [go_sem]⟩, ⟨by simp [go_sem], by simp [go_sem], by simp [go_sem], by simp [go_sem]⟩, by omega, by omega, by omega, by simp; try omega, by simp; try omega, (by repeat (first | exact Below.refl _ _ | apply Below.drew | (refine below_drewN ?_ _) | (refine Below.alloc ?_ (by simp; try omega) _) | (refine Below.setCell ?_ (by simp; try omega) _)))⟩
        | exact ⟨wx.heap.size + 1, wx.heap.size, rfl, rfl, ⟨by simp [go_sem], by simp [go_sem], by simp [go_sem], by simp [go_sem]⟩, ⟨by simp [go_sem], by simp [go_sem], by simp [go_sem], by simp [go_sem]⟩, by omega, by omega, by omega, by simp; try omega, by simp; try omega, (by repeat (first | exact Below.refl _ _ | apply Below.drew | (refine below_drewN ?_ _) | (refine Below.alloc ?_ (by simp; try omega) _) | (refine Below.setCell ?_ (by simp; try omega) _)))⟩
  case rest =>
  rename World => wz
  obtain ⟨z, u, rfl, rfl, Vz, Vu, hzu, hz1, hu1, hz2, hu2, B2⟩ := hcut
  have HA2 := Bin.below HA1 B2
  have HB2 := Bin.below HB1 B2
  obtain ⟨d0, d1, d2, d3⟩ := Var.below V2a B2 (by omega)
  obtain ⟨e0, e1, e2, e3⟩ := Var.below V3a B2 (by omega)
  obtain ⟨x0, x1, x2, x3⟩ := Var.below Vx B2 hx2
  obtain ⟨y0, y1, y2, y3⟩ := Var.below Vy B2 hy2
  obtain ⟨z0, z1, z2, z3⟩ := Vz
  obtain ⟨u0, u1, u2, u3⟩ := Vu
  obtain ⟨a0, a1, a2, a3, a4⟩ := HA2
  obtain ⟨c0, c1, c2, c3, c4⟩ := HB2
  have BZ : Below w.heap.size w wz := BW.trans (B2.mono BW.size)
  have q1 : ¬ x = y := hxy
  have q2 : ¬ y = x := by omega
  have q3 : ¬ z = u := hzu
  have q4 : ¬ u = z := by omega
  have q5 : ¬ x = z := by omega
  have q6 : ¬ z = x := by omega
  have q7 : ¬ x = u := by omega
  have q8 : ¬ u = x := by omega
  have q9 : ¬ y = z := by omega
  have q10 : ¬ z = y := by omega
  have q11 : ¬ y = u := by omega
  have q12 : ¬ u = y := by omega
  have hbA : bA < w.heap.size := by assumption
  have hbB : bB < w.heap.size := by assumption
  have q_bA_x : ¬ bA = x := by omega
  have q_bA_y : ¬ bA = y := by omega
  have q_bA_z : ¬ bA = z := by omega
  have q_bA_u : ¬ bA = u := by omega
  have q_bB_x : ¬ bB = x := by omega
  have q_bB_y : ¬ bB = y := by omega
  have q_bB_z : ¬ bB = z := by omega
  have q_bB_u : ¬ bB = u := by omega
  have q_b2_x : ¬ b2 = x := by omega
  have q_b2_y : ¬ b2 = y := by omega
  have q_b2_z : ¬ b2 = z := by omega
  have q_b2_u : ¬ b2 = u := by omega
  have q_2_x : ¬ w.heap.size + 2 = x := by omega
  have p_2_x : ¬ x = w.heap.size + 2 := by omega
  have q_2_y : ¬ w.heap.size + 2 = y := by omega
  have p_2_y : ¬ y = w.heap.size + 2 := by omega
  have q_2_z : ¬ w.heap.size + 2 = z := by omega
  have p_2_z : ¬ z = w.heap.size + 2 := by omega
  have q_2_u : ¬ w.heap.size + 2 = u := by omega
  have p_2_u : ¬ u = w.heap.size + 2 := by omega
  have q_3_x : ¬ w.heap.size + 3 = x := by omega
  have p_3_x : ¬ x = w.heap.size + 3 := by omega
  have q_3_y : ¬ w.heap.size + 3 = y := by omega
  have p_3_y : ¬ y = w.heap.size + 3 := by omega
  have q_3_z : ¬ w.heap.size + 3 = z := by omega
  have p_3_z : ¬ z = w.heap.size + 3 := by omega
  have q_3_u : ¬ w.heap.size + 3 = u := by omega
  have p_3_u : ¬ u = w.heap.size + 3 := by omega
  have q_bA_2 : ¬ bA = w.heap.size + 2 := by omega
  have q_bA_3 : ¬ bA = w.heap.size + 3 := by omega
  have q_bB_2 : ¬ bB = w.heap.size + 2 := by omega
  have q_bB_3 : ¬ bB = w.heap.size + 3 := by omega
  have q_b2_2 : ¬ b2 = w.heap.size + 2 := by omega
  have q_b2_3 : ¬ b2 = w.heap.size + 3 := by omega
  have i2c := kept B2 i2b
  have j2c := kept B2 j2b
  clear HA1 HB1 V2a V3a Vx Vy B2 BW hxy hzu
  go_wp2_with fail
  go_quiet (fail)
  go_wp2_with fail
  exact bodyPost_ret (v := .tuple #[.agg #[.nilIface, .int .i32 0], .agg #[.nilIface, .int .i32 0], .bool false]) (by simp [results, Try.results8, go_sem, *]) rfl ⟨rfl, by repeat (first | with_reducible exact BZ | (with_reducible refine below_drewN ?_ _) | (with_reducible refine Below.setCell ?_ (by show _ ≤ _; simp only []; omega) _))⟩
end Go.Proofs.YtonhekaakddneaaRRR.fnIsBinaryNullAndUndefinedExactShape
