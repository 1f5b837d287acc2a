/- Proved here: the walk of the law FnIsBinaryNullAndUndefinedExactShape, for every input. -/
import Derived.Test.YtonhekaakddneaaRRRNF
import Derived.WalkKit
import Derived.WalkSpells
import Derived.WalkLawsBesides
import Derived.Lib.Hide
namespace Go.Proofs.YtonhekaakddneaaRRR.fnIsBinaryNullAndUndefinedExactShape
open Go.RowKit
set_option linter.unusedSimpArgs false
set_option linter.unusedVariables false

set_option maxRecDepth 100000 in
set_option maxHeartbeats 4000000 in
theorem w_opL (op opL opR : Int) (n1 n2 n3 n4 : Nat) (k1 k2 k3 k4 r1 r2 r3 r4 : Int) (w : World) (a1 : 0 ≤ k1) (b1 : k1 ≤ 255) (a2 : 0 ≤ k2) (b2 : k2 ≤ 255) (a3 : 0 ≤ k3) (b3 : k3 ≤ 255) (a4 : 0 ≤ k4) (b4 : k4 ≤ 255) (l1 : n1 < 4) (l2 : n2 < 4) (l3 : n3 < 4) (l4 : n4 < 4) (e1 : k1 % 4 = n1) (e2 : k2 % 4 = n2) (e3 : k3 % 4 = n3) (e4 : k4 % 4 = n4) (hl : (opL == op) = false)
    (C : ∀ (v1 v2 v3 v4 : Value) (bA bB : Nat) (W : World), Opd W n1 r1 v1 → Opd W n2 r2 v2 → Opd W n3 r3 v3 → Opd W n4 r4 v4 → Bin W bA v1 0 v2 0 opL → Bin W bB v3 0 v4 0 opR → Calls Try.prog 8 #[.agg #[.iface 68 (.pointer (some ⟨bA, 0, none⟩)), .int .i32 0], .agg #[.iface 68 (.pointer (some ⟨bB, 0, none⟩)), .int .i32 0], .int .u8 op] W fun e w' => e = .returned (.tuple #[.agg #[.nilIface, .int .i32 0], .agg #[.nilIface, .int .i32 0], .bool false]) ∧ Below W.heap.size W w') :
    Calls Try.prog 3 #[.int .u8 op, .int .u8 opL, .int .u8 opR, .int .u8 k1, .int .u8 k2, .int .u8 k3, .int .u8 k4, .int .u32 r1, .int .u32 r2, .int .u32 r3, .int .u32 r4] w fun e w' => e = .returned (.bool true) ∧ Below w.heap.size w w' := by
  have HC := Lib.hid C
  have E1 := Lib.hid e1
  have E2 := Lib.hid e2
  have E3 := Lib.hid e3
  have E4 := Lib.hid e4
  clear C e1 e2 e3 e4
  obtain ⟨q1, hq1⟩ : ∃ q, refS n1 n2 r1 r2 = q := ⟨_, rfl⟩
  obtain ⟨q2, hq2⟩ : ∃ q, refS n3 n4 r3 r4 = q := ⟨_, rfl⟩
  obtain ⟨z1, hz1⟩ : ∃ q, litS n1 n2 = q := ⟨_, rfl⟩
  obtain ⟨z2, hz2⟩ : ∃ q, litS n3 n4 = q := ⟨_, rfl⟩
  obtain ⟨o1, ho1⟩ : ∃ q, okS n1 n2 = q := ⟨_, rfl⟩
  obtain ⟨o2, ho2⟩ : ∃ q, okS n3 n4 = q := ⟨_, rfl⟩
  have HQ1 := Lib.hid hq1
  have HQ2 := Lib.hid hq2
  have HZ1 := Lib.hid hz1
  have HZ2 := Lib.hid hz2
  have HO1 := Lib.hid ho1
  have HO2 := Lib.hid ho2
  clear hq1 hq2 hz1 hz2 ho1 ho2

  go_enter Try.func3, Try.ntmps3
  go_wp2_with fail
  refine (mk_any n1 _ _ _ a1 b1 l1 E1.out).mono ?_
  rintro e w1 ⟨v1, rfl, o1, B1⟩
  go_wp2_with fail
  refine (mk_any n2 _ _ _ a2 b2 l2 E2.out).mono ?_
  rintro e w2 ⟨v2, rfl, o2, B2⟩
  have p1 := o1.below B2
  clear o1
  obtain ⟨x1, rfl, q1⟩ := id p1
  obtain ⟨x2, rfl, q2⟩ := id o2
  have P1 := Lib.hid p1
  have P2 := Lib.hid o2
  clear p1 o2 q1 q2
  go_wp2_with fail
  refine (bin_any _ _ _ _ _ _).mono ?_
  rintro e w3 ⟨bA, rfl, HA, B3⟩
  have HAh := Lib.hid HA
  clear HA
  go_wp2_with fail
  obtain ⟨W4, hW4⟩ : ∃ W4, W4 = w3.alloc (Obj.cells #[.iface 68 (.pointer (some ⟨bA, 0, none⟩)), .int .i32 0] 28) := ⟨_, rfl⟩
  rw [← hW4]
  have B34 : Below w3.heap.size w3 W4 := by rw [hW4]; exact (Below.refl _ _).alloc (Nat.le_refl _) _
  have L0 : W4.cell? ⟨w3.heap.size, 0, none⟩ = some (.iface 68 (.pointer (some ⟨bA, 0, none⟩))) := by rw [hW4]; simp [go_sem]
  have L1 : W4.cell? ⟨w3.heap.size, 1, none⟩ = some (.int .i32 0) := by rw [hW4]; simp [go_sem]
  clear hW4
  refine (mk_any n3 _ _ _ a3 b3 l3 E3.out).mono ?_
  rintro e w5 ⟨v3, rfl, o3, B5⟩
  have M0 := kept B5 L0
  have M1 := kept B5 L1
  clear L0 L1
  go_wp2_with fail
  refine (mk_any n4 _ _ _ a4 b4 l4 E4.out).mono ?_
  rintro e w6 ⟨v4, rfl, o4, B6⟩
  have N0 := kept B6 M0
  have N1 := kept B6 M1
  clear M0 M1
  have p3 := o3.below B6
  clear o3
  obtain ⟨x3, rfl, q3⟩ := id p3
  obtain ⟨x4, rfl, q4⟩ := id o4
  have P3 := Lib.hid p3
  have P4 := Lib.hid o4
  clear p3 o4 q3 q4
  go_wp2_with fail
  refine (bin_any _ _ _ _ _ _).mono ?_
  rintro e w7 ⟨bB, rfl, HB, B7⟩
  have HBh := Lib.hid HB
  clear HB
  have R0 := kept B7 N0
  have R1 := kept B7 N1
  have zl : w3.heap.size < w7.heap.size := World.block_lt_of_cell? _ _ R0
  clear N0 N1
  have T7 : Below w2.heap.size w2 w7 := bel2 (bel2 (bel2 (bel2 B3 B34) B5) B6) B7
  have S7 : Below w3.heap.size w3 w7 := bel2 (bel2 (bel2 B34 B5) B6) B7
  have BW : Below w.heap.size w w7 := bel2 (bel2 B1 B2) T7
  go_wp2_with fail
  have al := Lib.hid (fun o => (show Below w7.heap.size w7 (w7.alloc o) from (Below.refl _ _).alloc (Nat.le_refl _) _))
  refine (HC.out _ _ _ _ bA bB _ ((P1.out.below T7).below (al.out _)) ((P2.out.below T7).below (al.out _)) ((P3.out.below B7).below (al.out _)) ((P4.out.below B7).below (al.out _)) ((Bin.below (Bin.below HAh.out S7)) (al.out _)) (Bin.below HBh.out (al.out _))).mono ?_
  rintro e w8 ⟨rfl, B8⟩
  have BW8 : Below w.heap.size w w8 := (BW.alloc BW.size _).trans (B8.mono (by have := BW.size; simp; omega))
  have T8 := Lib.hid ((al.out _).trans (B8.mono (al.out _).size))
  clear B8 R0 R1 zl B1 B2 B3 B34 B5 B6 BW
  go_wp2_with fail
  refine (shape_any n1 n2 _ _ _ _ _ a1 b1 a2 b2 l1 l2 E1.out E2.out).mono ?_
  rintro e w' ⟨rfl, rfl⟩
  rw [HQ1.out, HZ1.out, HO1.out]
  go_wp2_with fail
  refine (shape_any n3 n4 _ _ _ _ _ a3 b3 a4 b4 l3 l4 E3.out E4.out).mono ?_
  rintro e w' ⟨rfl, rfl⟩
  rw [HQ2.out, HZ2.out, HO2.out]
  go_wp2_with fail
  refine (nil_any _).mono ?_
  rintro e w9 ⟨rfl, B9⟩
  have y0 : w9.cell? ⟨w8.heap.size + 1, 0, none⟩ = some .nilIface := by rw [B9.cell (by simp; try omega)]; simp [go_sem]
  have y1 : w9.cell? ⟨w8.heap.size + 1, 1, none⟩ = some (.int .i32 0) := by rw [B9.cell (by simp; try omega)]; simp [go_sem]
  have BW9 : Below w.heap.size w w9 := ((BW8.alloc BW8.size _).alloc (by have := BW8.size; simp; omega) _).trans (B9.mono (by have := BW8.size; simp; omega))
  clear B9
  go_wp2_with fail
  refine (nil_any _).mono ?_
  rintro e w10 ⟨rfl, B10⟩
  go_wp2_with fail
  go_ret
  exact ⟨rfl, bel2 BW9 B10⟩

set_option maxRecDepth 100000 in
set_option maxHeartbeats 4000000 in
theorem w_opR (op opL opR : Int) (n1 n2 n3 n4 : Nat) (k1 k2 k3 k4 r1 r2 r3 r4 : Int) (w : World) (a1 : 0 ≤ k1) (b1 : k1 ≤ 255) (a2 : 0 ≤ k2) (b2 : k2 ≤ 255) (a3 : 0 ≤ k3) (b3 : k3 ≤ 255) (a4 : 0 ≤ k4) (b4 : k4 ≤ 255) (l1 : n1 < 4) (l2 : n2 < 4) (l3 : n3 < 4) (l4 : n4 < 4) (e1 : k1 % 4 = n1) (e2 : k2 % 4 = n2) (e3 : k3 % 4 = n3) (e4 : k4 % 4 = n4) (hl : (opL == op) = true) (hr : (opR == op) = false)
    (C : ∀ (v1 v2 v3 v4 : Value) (bA bB : Nat) (W : World), Opd W n1 r1 v1 → Opd W n2 r2 v2 → Opd W n3 r3 v3 → Opd W n4 r4 v4 → Bin W bA v1 0 v2 0 opL → Bin W bB v3 0 v4 0 opR → Calls Try.prog 8 #[.agg #[.iface 68 (.pointer (some ⟨bA, 0, none⟩)), .int .i32 0], .agg #[.iface 68 (.pointer (some ⟨bB, 0, none⟩)), .int .i32 0], .int .u8 op] W fun e w' => e = .returned (.tuple #[.agg #[.nilIface, .int .i32 0], .agg #[.nilIface, .int .i32 0], .bool false]) ∧ Below W.heap.size W w') :
    Calls Try.prog 3 #[.int .u8 op, .int .u8 opL, .int .u8 opR, .int .u8 k1, .int .u8 k2, .int .u8 k3, .int .u8 k4, .int .u32 r1, .int .u32 r2, .int .u32 r3, .int .u32 r4] w fun e w' => e = .returned (.bool true) ∧ Below w.heap.size w w' := by
  have HC := Lib.hid C
  have E1 := Lib.hid e1
  have E2 := Lib.hid e2
  have E3 := Lib.hid e3
  have E4 := Lib.hid e4
  clear C e1 e2 e3 e4
  obtain ⟨q1, hq1⟩ : ∃ q, refS n1 n2 r1 r2 = q := ⟨_, rfl⟩
  obtain ⟨q2, hq2⟩ : ∃ q, refS n3 n4 r3 r4 = q := ⟨_, rfl⟩
  obtain ⟨z1, hz1⟩ : ∃ q, litS n1 n2 = q := ⟨_, rfl⟩
  obtain ⟨z2, hz2⟩ : ∃ q, litS n3 n4 = q := ⟨_, rfl⟩
  obtain ⟨o1, ho1⟩ : ∃ q, okS n1 n2 = q := ⟨_, rfl⟩
  obtain ⟨o2, ho2⟩ : ∃ q, okS n3 n4 = q := ⟨_, rfl⟩
  have HQ1 := Lib.hid hq1
  have HQ2 := Lib.hid hq2
  have HZ1 := Lib.hid hz1
  have HZ2 := Lib.hid hz2
  have HO1 := Lib.hid ho1
  have HO2 := Lib.hid ho2
  clear hq1 hq2 hz1 hz2 ho1 ho2

  go_enter Try.func3, Try.ntmps3
  go_wp2_with fail
  refine (mk_any n1 _ _ _ a1 b1 l1 E1.out).mono ?_
  rintro e w1 ⟨v1, rfl, o1, B1⟩
  go_wp2_with fail
  refine (mk_any n2 _ _ _ a2 b2 l2 E2.out).mono ?_
  rintro e w2 ⟨v2, rfl, o2, B2⟩
  have p1 := o1.below B2
  clear o1
  obtain ⟨x1, rfl, q1⟩ := id p1
  obtain ⟨x2, rfl, q2⟩ := id o2
  have P1 := Lib.hid p1
  have P2 := Lib.hid o2
  clear p1 o2 q1 q2
  go_wp2_with fail
  refine (bin_any _ _ _ _ _ _).mono ?_
  rintro e w3 ⟨bA, rfl, HA, B3⟩
  have HAh := Lib.hid HA
  clear HA
  go_wp2_with fail
  obtain ⟨W4, hW4⟩ : ∃ W4, W4 = w3.alloc (Obj.cells #[.iface 68 (.pointer (some ⟨bA, 0, none⟩)), .int .i32 0] 28) := ⟨_, rfl⟩
  rw [← hW4]
  have B34 : Below w3.heap.size w3 W4 := by rw [hW4]; exact (Below.refl _ _).alloc (Nat.le_refl _) _
  have L0 : W4.cell? ⟨w3.heap.size, 0, none⟩ = some (.iface 68 (.pointer (some ⟨bA, 0, none⟩))) := by rw [hW4]; simp [go_sem]
  have L1 : W4.cell? ⟨w3.heap.size, 1, none⟩ = some (.int .i32 0) := by rw [hW4]; simp [go_sem]
  clear hW4
  refine (mk_any n3 _ _ _ a3 b3 l3 E3.out).mono ?_
  rintro e w5 ⟨v3, rfl, o3, B5⟩
  have M0 := kept B5 L0
  have M1 := kept B5 L1
  clear L0 L1
  go_wp2_with fail
  refine (mk_any n4 _ _ _ a4 b4 l4 E4.out).mono ?_
  rintro e w6 ⟨v4, rfl, o4, B6⟩
  have N0 := kept B6 M0
  have N1 := kept B6 M1
  clear M0 M1
  have p3 := o3.below B6
  clear o3
  obtain ⟨x3, rfl, q3⟩ := id p3
  obtain ⟨x4, rfl, q4⟩ := id o4
  have P3 := Lib.hid p3
  have P4 := Lib.hid o4
  clear p3 o4 q3 q4
  go_wp2_with fail
  refine (bin_any _ _ _ _ _ _).mono ?_
  rintro e w7 ⟨bB, rfl, HB, B7⟩
  have HBh := Lib.hid HB
  clear HB
  have R0 := kept B7 N0
  have R1 := kept B7 N1
  have zl : w3.heap.size < w7.heap.size := World.block_lt_of_cell? _ _ R0
  clear N0 N1
  have T7 : Below w2.heap.size w2 w7 := bel2 (bel2 (bel2 (bel2 B3 B34) B5) B6) B7
  have S7 : Below w3.heap.size w3 w7 := bel2 (bel2 (bel2 B34 B5) B6) B7
  have BW : Below w.heap.size w w7 := bel2 (bel2 B1 B2) T7
  go_wp2_with fail
  have al := Lib.hid (fun o => (show Below w7.heap.size w7 (w7.alloc o) from (Below.refl _ _).alloc (Nat.le_refl _) _))
  refine (HC.out _ _ _ _ bA bB _ ((P1.out.below T7).below (al.out _)) ((P2.out.below T7).below (al.out _)) ((P3.out.below B7).below (al.out _)) ((P4.out.below B7).below (al.out _)) ((Bin.below (Bin.below HAh.out S7)) (al.out _)) (Bin.below HBh.out (al.out _))).mono ?_
  rintro e w8 ⟨rfl, B8⟩
  have BW8 : Below w.heap.size w w8 := (BW.alloc BW.size _).trans (B8.mono (by have := BW.size; simp; omega))
  have T8 := Lib.hid ((al.out _).trans (B8.mono (al.out _).size))
  clear B8 R0 R1 zl B1 B2 B3 B34 B5 B6 BW
  go_wp2_with fail
  refine (shape_any n1 n2 _ _ _ _ _ a1 b1 a2 b2 l1 l2 E1.out E2.out).mono ?_
  rintro e w' ⟨rfl, rfl⟩
  rw [HQ1.out, HZ1.out, HO1.out]
  go_wp2_with fail
  refine (shape_any n3 n4 _ _ _ _ _ a3 b3 a4 b4 l3 l4 E3.out E4.out).mono ?_
  rintro e w' ⟨rfl, rfl⟩
  rw [HQ2.out, HZ2.out, HO2.out]
  go_wp2_with fail
  refine (nil_any _).mono ?_
  rintro e w9 ⟨rfl, B9⟩
  have y0 : w9.cell? ⟨w8.heap.size + 1, 0, none⟩ = some .nilIface := by rw [B9.cell (by simp; try omega)]; simp [go_sem]
  have y1 : w9.cell? ⟨w8.heap.size + 1, 1, none⟩ = some (.int .i32 0) := by rw [B9.cell (by simp; try omega)]; simp [go_sem]
  have BW9 : Below w.heap.size w w9 := ((BW8.alloc BW8.size _).alloc (by have := BW8.size; simp; omega) _).trans (B9.mono (by have := BW8.size; simp; omega))
  clear B9
  go_wp2_with fail
  refine (nil_any _).mono ?_
  rintro e w10 ⟨rfl, B10⟩
  go_wp2_with fail
  go_ret
  exact ⟨rfl, bel2 BW9 B10⟩

set_option maxRecDepth 100000 in
set_option maxHeartbeats 4000000 in
theorem w_okA (op opL opR : Int) (n1 n2 n3 n4 : Nat) (k1 k2 k3 k4 r1 r2 r3 r4 : Int) (w : World) (a1 : 0 ≤ k1) (b1 : k1 ≤ 255) (a2 : 0 ≤ k2) (b2 : k2 ≤ 255) (a3 : 0 ≤ k3) (b3 : k3 ≤ 255) (a4 : 0 ≤ k4) (b4 : k4 ≤ 255) (l1 : n1 < 4) (l2 : n2 < 4) (l3 : n3 < 4) (l4 : n4 < 4) (e1 : k1 % 4 = n1) (e2 : k2 % 4 = n2) (e3 : k3 % 4 = n3) (e4 : k4 % 4 = n4) (hl : (opL == op) = true) (hr : (opR == op) = true) (hoa : okS n1 n2 = false)
    (C : ∀ (v1 v2 v3 v4 : Value) (bA bB : Nat) (W : World), Opd W n1 r1 v1 → Opd W n2 r2 v2 → Opd W n3 r3 v3 → Opd W n4 r4 v4 → Bin W bA v1 0 v2 0 opL → Bin W bB v3 0 v4 0 opR → Calls Try.prog 8 #[.agg #[.iface 68 (.pointer (some ⟨bA, 0, none⟩)), .int .i32 0], .agg #[.iface 68 (.pointer (some ⟨bB, 0, none⟩)), .int .i32 0], .int .u8 op] W fun e w' => e = .returned (.tuple #[.agg #[.nilIface, .int .i32 0], .agg #[.nilIface, .int .i32 0], .bool false]) ∧ Below W.heap.size W w') :
    Calls Try.prog 3 #[.int .u8 op, .int .u8 opL, .int .u8 opR, .int .u8 k1, .int .u8 k2, .int .u8 k3, .int .u8 k4, .int .u32 r1, .int .u32 r2, .int .u32 r3, .int .u32 r4] w fun e w' => e = .returned (.bool true) ∧ Below w.heap.size w w' := by
  have HC := Lib.hid C
  have E1 := Lib.hid e1
  have E2 := Lib.hid e2
  have E3 := Lib.hid e3
  have E4 := Lib.hid e4
  clear C e1 e2 e3 e4
  obtain ⟨q1, hq1⟩ : ∃ q, refS n1 n2 r1 r2 = q := ⟨_, rfl⟩
  obtain ⟨q2, hq2⟩ : ∃ q, refS n3 n4 r3 r4 = q := ⟨_, rfl⟩
  obtain ⟨z1, hz1⟩ : ∃ q, litS n1 n2 = q := ⟨_, rfl⟩
  obtain ⟨z2, hz2⟩ : ∃ q, litS n3 n4 = q := ⟨_, rfl⟩
  have ho1 := hoa
  obtain ⟨o2, ho2⟩ : ∃ q, okS n3 n4 = q := ⟨_, rfl⟩
  have HQ1 := Lib.hid hq1
  have HQ2 := Lib.hid hq2
  have HZ1 := Lib.hid hz1
  have HZ2 := Lib.hid hz2
  have HO1 := Lib.hid ho1
  have HO2 := Lib.hid ho2
  clear hq1 hq2 hz1 hz2 ho1 ho2 hoa

  go_enter Try.func3, Try.ntmps3
  go_wp2_with fail
  refine (mk_any n1 _ _ _ a1 b1 l1 E1.out).mono ?_
  rintro e w1 ⟨v1, rfl, o1, B1⟩
  go_wp2_with fail
  refine (mk_any n2 _ _ _ a2 b2 l2 E2.out).mono ?_
  rintro e w2 ⟨v2, rfl, o2, B2⟩
  have p1 := o1.below B2
  clear o1
  obtain ⟨x1, rfl, q1⟩ := id p1
  obtain ⟨x2, rfl, q2⟩ := id o2
  have P1 := Lib.hid p1
  have P2 := Lib.hid o2
  clear p1 o2 q1 q2
  go_wp2_with fail
  refine (bin_any _ _ _ _ _ _).mono ?_
  rintro e w3 ⟨bA, rfl, HA, B3⟩
  have HAh := Lib.hid HA
  clear HA
  go_wp2_with fail
  obtain ⟨W4, hW4⟩ : ∃ W4, W4 = w3.alloc (Obj.cells #[.iface 68 (.pointer (some ⟨bA, 0, none⟩)), .int .i32 0] 28) := ⟨_, rfl⟩
  rw [← hW4]
  have B34 : Below w3.heap.size w3 W4 := by rw [hW4]; exact (Below.refl _ _).alloc (Nat.le_refl _) _
  have L0 : W4.cell? ⟨w3.heap.size, 0, none⟩ = some (.iface 68 (.pointer (some ⟨bA, 0, none⟩))) := by rw [hW4]; simp [go_sem]
  have L1 : W4.cell? ⟨w3.heap.size, 1, none⟩ = some (.int .i32 0) := by rw [hW4]; simp [go_sem]
  clear hW4
  refine (mk_any n3 _ _ _ a3 b3 l3 E3.out).mono ?_
  rintro e w5 ⟨v3, rfl, o3, B5⟩
  have M0 := kept B5 L0
  have M1 := kept B5 L1
  clear L0 L1
  go_wp2_with fail
  refine (mk_any n4 _ _ _ a4 b4 l4 E4.out).mono ?_
  rintro e w6 ⟨v4, rfl, o4, B6⟩
  have N0 := kept B6 M0
  have N1 := kept B6 M1
  clear M0 M1
  have p3 := o3.below B6
  clear o3
  obtain ⟨x3, rfl, q3⟩ := id p3
  obtain ⟨x4, rfl, q4⟩ := id o4
  have P3 := Lib.hid p3
  have P4 := Lib.hid o4
  clear p3 o4 q3 q4
  go_wp2_with fail
  refine (bin_any _ _ _ _ _ _).mono ?_
  rintro e w7 ⟨bB, rfl, HB, B7⟩
  have HBh := Lib.hid HB
  clear HB
  have R0 := kept B7 N0
  have R1 := kept B7 N1
  have zl : w3.heap.size < w7.heap.size := World.block_lt_of_cell? _ _ R0
  clear N0 N1
  have T7 : Below w2.heap.size w2 w7 := bel2 (bel2 (bel2 (bel2 B3 B34) B5) B6) B7
  have S7 : Below w3.heap.size w3 w7 := bel2 (bel2 (bel2 B34 B5) B6) B7
  have BW : Below w.heap.size w w7 := bel2 (bel2 B1 B2) T7
  go_wp2_with fail
  have al := Lib.hid (fun o => (show Below w7.heap.size w7 (w7.alloc o) from (Below.refl _ _).alloc (Nat.le_refl _) _))
  refine (HC.out _ _ _ _ bA bB _ ((P1.out.below T7).below (al.out _)) ((P2.out.below T7).below (al.out _)) ((P3.out.below B7).below (al.out _)) ((P4.out.below B7).below (al.out _)) ((Bin.below (Bin.below HAh.out S7)) (al.out _)) (Bin.below HBh.out (al.out _))).mono ?_
  rintro e w8 ⟨rfl, B8⟩
  have BW8 : Below w.heap.size w w8 := (BW.alloc BW.size _).trans (B8.mono (by have := BW.size; simp; omega))
  have T8 := Lib.hid ((al.out _).trans (B8.mono (al.out _).size))
  clear B8 R0 R1 zl B1 B2 B3 B34 B5 B6 BW
  go_wp2_with fail
  refine (shape_any n1 n2 _ _ _ _ _ a1 b1 a2 b2 l1 l2 E1.out E2.out).mono ?_
  rintro e w' ⟨rfl, rfl⟩
  rw [HQ1.out, HZ1.out, HO1.out]
  go_wp2_with fail
  refine (shape_any n3 n4 _ _ _ _ _ a3 b3 a4 b4 l3 l4 E3.out E4.out).mono ?_
  rintro e w' ⟨rfl, rfl⟩
  rw [HQ2.out, HZ2.out, HO2.out]
  go_wp2_with fail
  refine (nil_any _).mono ?_
  rintro e w9 ⟨rfl, B9⟩
  have y0 : w9.cell? ⟨w8.heap.size + 1, 0, none⟩ = some .nilIface := by rw [B9.cell (by simp; try omega)]; simp [go_sem]
  have y1 : w9.cell? ⟨w8.heap.size + 1, 1, none⟩ = some (.int .i32 0) := by rw [B9.cell (by simp; try omega)]; simp [go_sem]
  have BW9 : Below w.heap.size w w9 := ((BW8.alloc BW8.size _).alloc (by have := BW8.size; simp; omega) _).trans (B9.mono (by have := BW8.size; simp; omega))
  clear B9
  go_wp2_with fail
  refine (nil_any _).mono ?_
  rintro e w10 ⟨rfl, B10⟩
  go_wp2_with fail
  go_ret
  exact ⟨rfl, bel2 BW9 B10⟩

set_option maxRecDepth 100000 in
set_option maxHeartbeats 4000000 in
theorem w_okB (op opL opR : Int) (n1 n2 n3 n4 : Nat) (k1 k2 k3 k4 r1 r2 r3 r4 : Int) (w : World) (a1 : 0 ≤ k1) (b1 : k1 ≤ 255) (a2 : 0 ≤ k2) (b2 : k2 ≤ 255) (a3 : 0 ≤ k3) (b3 : k3 ≤ 255) (a4 : 0 ≤ k4) (b4 : k4 ≤ 255) (l1 : n1 < 4) (l2 : n2 < 4) (l3 : n3 < 4) (l4 : n4 < 4) (e1 : k1 % 4 = n1) (e2 : k2 % 4 = n2) (e3 : k3 % 4 = n3) (e4 : k4 % 4 = n4) (hl : (opL == op) = true) (hr : (opR == op) = true) (hoa : okS n1 n2 = true) (hob : okS n3 n4 = false)
    (C : ∀ (v1 v2 v3 v4 : Value) (bA bB : Nat) (W : World), Opd W n1 r1 v1 → Opd W n2 r2 v2 → Opd W n3 r3 v3 → Opd W n4 r4 v4 → Bin W bA v1 0 v2 0 opL → Bin W bB v3 0 v4 0 opR → Calls Try.prog 8 #[.agg #[.iface 68 (.pointer (some ⟨bA, 0, none⟩)), .int .i32 0], .agg #[.iface 68 (.pointer (some ⟨bB, 0, none⟩)), .int .i32 0], .int .u8 op] W fun e w' => e = .returned (.tuple #[.agg #[.nilIface, .int .i32 0], .agg #[.nilIface, .int .i32 0], .bool false]) ∧ Below W.heap.size W w') :
    Calls Try.prog 3 #[.int .u8 op, .int .u8 opL, .int .u8 opR, .int .u8 k1, .int .u8 k2, .int .u8 k3, .int .u8 k4, .int .u32 r1, .int .u32 r2, .int .u32 r3, .int .u32 r4] w fun e w' => e = .returned (.bool true) ∧ Below w.heap.size w w' := by
  have HC := Lib.hid C
  have E1 := Lib.hid e1
  have E2 := Lib.hid e2
  have E3 := Lib.hid e3
  have E4 := Lib.hid e4
  clear C e1 e2 e3 e4
  obtain ⟨q1, hq1⟩ : ∃ q, refS n1 n2 r1 r2 = q := ⟨_, rfl⟩
  obtain ⟨q2, hq2⟩ : ∃ q, refS n3 n4 r3 r4 = q := ⟨_, rfl⟩
  obtain ⟨z1, hz1⟩ : ∃ q, litS n1 n2 = q := ⟨_, rfl⟩
  obtain ⟨z2, hz2⟩ : ∃ q, litS n3 n4 = q := ⟨_, rfl⟩
  have ho1 := hoa
  have ho2 := hob
  have HQ1 := Lib.hid hq1
  have HQ2 := Lib.hid hq2
  have HZ1 := Lib.hid hz1
  have HZ2 := Lib.hid hz2
  have HO1 := Lib.hid ho1
  have HO2 := Lib.hid ho2
  clear hq1 hq2 hz1 hz2 ho1 ho2 hoa hob

  go_enter Try.func3, Try.ntmps3
  go_wp2_with fail
  refine (mk_any n1 _ _ _ a1 b1 l1 E1.out).mono ?_
  rintro e w1 ⟨v1, rfl, o1, B1⟩
  go_wp2_with fail
  refine (mk_any n2 _ _ _ a2 b2 l2 E2.out).mono ?_
  rintro e w2 ⟨v2, rfl, o2, B2⟩
  have p1 := o1.below B2
  clear o1
  obtain ⟨x1, rfl, q1⟩ := id p1
  obtain ⟨x2, rfl, q2⟩ := id o2
  have P1 := Lib.hid p1
  have P2 := Lib.hid o2
  clear p1 o2 q1 q2
  go_wp2_with fail
  refine (bin_any _ _ _ _ _ _).mono ?_
  rintro e w3 ⟨bA, rfl, HA, B3⟩
  have HAh := Lib.hid HA
  clear HA
  go_wp2_with fail
  obtain ⟨W4, hW4⟩ : ∃ W4, W4 = w3.alloc (Obj.cells #[.iface 68 (.pointer (some ⟨bA, 0, none⟩)), .int .i32 0] 28) := ⟨_, rfl⟩
  rw [← hW4]
  have B34 : Below w3.heap.size w3 W4 := by rw [hW4]; exact (Below.refl _ _).alloc (Nat.le_refl _) _
  have L0 : W4.cell? ⟨w3.heap.size, 0, none⟩ = some (.iface 68 (.pointer (some ⟨bA, 0, none⟩))) := by rw [hW4]; simp [go_sem]
  have L1 : W4.cell? ⟨w3.heap.size, 1, none⟩ = some (.int .i32 0) := by rw [hW4]; simp [go_sem]
  clear hW4
  refine (mk_any n3 _ _ _ a3 b3 l3 E3.out).mono ?_
  rintro e w5 ⟨v3, rfl, o3, B5⟩
  have M0 := kept B5 L0
  have M1 := kept B5 L1
  clear L0 L1
  go_wp2_with fail
  refine (mk_any n4 _ _ _ a4 b4 l4 E4.out).mono ?_
  rintro e w6 ⟨v4, rfl, o4, B6⟩
  have N0 := kept B6 M0
  have N1 := kept B6 M1
  clear M0 M1
  have p3 := o3.below B6
  clear o3
  obtain ⟨x3, rfl, q3⟩ := id p3
  obtain ⟨x4, rfl, q4⟩ := id o4
  have P3 := Lib.hid p3
  have P4 := Lib.hid o4
  clear p3 o4 q3 q4
  go_wp2_with fail
  refine (bin_any _ _ _ _ _ _).mono ?_
  rintro e w7 ⟨bB, rfl, HB, B7⟩
  have HBh := Lib.hid HB
  clear HB
  have R0 := kept B7 N0
  have R1 := kept B7 N1
  have zl : w3.heap.size < w7.heap.size := World.block_lt_of_cell? _ _ R0
  clear N0 N1
  have T7 : Below w2.heap.size w2 w7 := bel2 (bel2 (bel2 (bel2 B3 B34) B5) B6) B7
  have S7 : Below w3.heap.size w3 w7 := bel2 (bel2 (bel2 B34 B5) B6) B7
  have BW : Below w.heap.size w w7 := bel2 (bel2 B1 B2) T7
  go_wp2_with fail
  have al := Lib.hid (fun o => (show Below w7.heap.size w7 (w7.alloc o) from (Below.refl _ _).alloc (Nat.le_refl _) _))
  refine (HC.out _ _ _ _ bA bB _ ((P1.out.below T7).below (al.out _)) ((P2.out.below T7).below (al.out _)) ((P3.out.below B7).below (al.out _)) ((P4.out.below B7).below (al.out _)) ((Bin.below (Bin.below HAh.out S7)) (al.out _)) (Bin.below HBh.out (al.out _))).mono ?_
  rintro e w8 ⟨rfl, B8⟩
  have BW8 : Below w.heap.size w w8 := (BW.alloc BW.size _).trans (B8.mono (by have := BW.size; simp; omega))
  have T8 := Lib.hid ((al.out _).trans (B8.mono (al.out _).size))
  clear B8 R0 R1 zl B1 B2 B3 B34 B5 B6 BW
  go_wp2_with fail
  refine (shape_any n1 n2 _ _ _ _ _ a1 b1 a2 b2 l1 l2 E1.out E2.out).mono ?_
  rintro e w' ⟨rfl, rfl⟩
  rw [HQ1.out, HZ1.out, HO1.out]
  go_wp2_with fail
  refine (shape_any n3 n4 _ _ _ _ _ a3 b3 a4 b4 l3 l4 E3.out E4.out).mono ?_
  rintro e w' ⟨rfl, rfl⟩
  rw [HQ2.out, HZ2.out, HO2.out]
  go_wp2_with fail
  refine (nil_any _).mono ?_
  rintro e w9 ⟨rfl, B9⟩
  have y0 : w9.cell? ⟨w8.heap.size + 1, 0, none⟩ = some .nilIface := by rw [B9.cell (by simp; try omega)]; simp [go_sem]
  have y1 : w9.cell? ⟨w8.heap.size + 1, 1, none⟩ = some (.int .i32 0) := by rw [B9.cell (by simp; try omega)]; simp [go_sem]
  have BW9 : Below w.heap.size w w9 := ((BW8.alloc BW8.size _).alloc (by have := BW8.size; simp; omega) _).trans (B9.mono (by have := BW8.size; simp; omega))
  clear B9
  go_wp2_with fail
  refine (nil_any _).mono ?_
  rintro e w10 ⟨rfl, B10⟩
  go_wp2_with fail
  go_ret
  exact ⟨rfl, bel2 BW9 B10⟩

set_option maxRecDepth 100000 in
set_option maxHeartbeats 4000000 in
theorem w_ref (op opL opR : Int) (n1 n2 n3 n4 : Nat) (k1 k2 k3 k4 r1 r2 r3 r4 : Int) (w : World) (a1 : 0 ≤ k1) (b1 : k1 ≤ 255) (a2 : 0 ≤ k2) (b2 : k2 ≤ 255) (a3 : 0 ≤ k3) (b3 : k3 ≤ 255) (a4 : 0 ≤ k4) (b4 : k4 ≤ 255) (l1 : n1 < 4) (l2 : n2 < 4) (l3 : n3 < 4) (l4 : n4 < 4) (e1 : k1 % 4 = n1) (e2 : k2 % 4 = n2) (e3 : k3 % 4 = n3) (e4 : k4 % 4 = n4) (hl : (opL == op) = true) (hr : (opR == op) = true) (hoa : okS n1 n2 = true) (hob : okS n3 n4 = true) (hrf : (refS n1 n2 r1 r2 == refS n3 n4 r3 r4) = false)
    (C : ∀ (v1 v2 v3 v4 : Value) (bA bB : Nat) (W : World), Opd W n1 r1 v1 → Opd W n2 r2 v2 → Opd W n3 r3 v3 → Opd W n4 r4 v4 → Bin W bA v1 0 v2 0 opL → Bin W bB v3 0 v4 0 opR → Calls Try.prog 8 #[.agg #[.iface 68 (.pointer (some ⟨bA, 0, none⟩)), .int .i32 0], .agg #[.iface 68 (.pointer (some ⟨bB, 0, none⟩)), .int .i32 0], .int .u8 op] W fun e w' => e = .returned (.tuple #[.agg #[.nilIface, .int .i32 0], .agg #[.nilIface, .int .i32 0], .bool false]) ∧ Below W.heap.size W w') :
    Calls Try.prog 3 #[.int .u8 op, .int .u8 opL, .int .u8 opR, .int .u8 k1, .int .u8 k2, .int .u8 k3, .int .u8 k4, .int .u32 r1, .int .u32 r2, .int .u32 r3, .int .u32 r4] w fun e w' => e = .returned (.bool true) ∧ Below w.heap.size w w' := by
  have HC := Lib.hid C
  have E1 := Lib.hid e1
  have E2 := Lib.hid e2
  have E3 := Lib.hid e3
  have E4 := Lib.hid e4
  clear C e1 e2 e3 e4
  obtain ⟨q1, hq1⟩ : ∃ q, refS n1 n2 r1 r2 = q := ⟨_, rfl⟩
  obtain ⟨q2, hq2⟩ : ∃ q, refS n3 n4 r3 r4 = q := ⟨_, rfl⟩
  obtain ⟨z1, hz1⟩ : ∃ q, litS n1 n2 = q := ⟨_, rfl⟩
  obtain ⟨z2, hz2⟩ : ∃ q, litS n3 n4 = q := ⟨_, rfl⟩
  have ho1 := hoa
  have ho2 := hob
  rw [hq1, hq2] at hrf
  have HQ1 := Lib.hid hq1
  have HQ2 := Lib.hid hq2
  have HZ1 := Lib.hid hz1
  have HZ2 := Lib.hid hz2
  have HO1 := Lib.hid ho1
  have HO2 := Lib.hid ho2
  clear hq1 hq2 hz1 hz2 ho1 ho2 hoa hob

  go_enter Try.func3, Try.ntmps3
  go_wp2_with fail
  refine (mk_any n1 _ _ _ a1 b1 l1 E1.out).mono ?_
  rintro e w1 ⟨v1, rfl, o1, B1⟩
  go_wp2_with fail
  refine (mk_any n2 _ _ _ a2 b2 l2 E2.out).mono ?_
  rintro e w2 ⟨v2, rfl, o2, B2⟩
  have p1 := o1.below B2
  clear o1
  obtain ⟨x1, rfl, q1⟩ := id p1
  obtain ⟨x2, rfl, q2⟩ := id o2
  have P1 := Lib.hid p1
  have P2 := Lib.hid o2
  clear p1 o2 q1 q2
  go_wp2_with fail
  refine (bin_any _ _ _ _ _ _).mono ?_
  rintro e w3 ⟨bA, rfl, HA, B3⟩
  have HAh := Lib.hid HA
  clear HA
  go_wp2_with fail
  obtain ⟨W4, hW4⟩ : ∃ W4, W4 = w3.alloc (Obj.cells #[.iface 68 (.pointer (some ⟨bA, 0, none⟩)), .int .i32 0] 28) := ⟨_, rfl⟩
  rw [← hW4]
  have B34 : Below w3.heap.size w3 W4 := by rw [hW4]; exact (Below.refl _ _).alloc (Nat.le_refl _) _
  have L0 : W4.cell? ⟨w3.heap.size, 0, none⟩ = some (.iface 68 (.pointer (some ⟨bA, 0, none⟩))) := by rw [hW4]; simp [go_sem]
  have L1 : W4.cell? ⟨w3.heap.size, 1, none⟩ = some (.int .i32 0) := by rw [hW4]; simp [go_sem]
  clear hW4
  refine (mk_any n3 _ _ _ a3 b3 l3 E3.out).mono ?_
  rintro e w5 ⟨v3, rfl, o3, B5⟩
  have M0 := kept B5 L0
  have M1 := kept B5 L1
  clear L0 L1
  go_wp2_with fail
  refine (mk_any n4 _ _ _ a4 b4 l4 E4.out).mono ?_
  rintro e w6 ⟨v4, rfl, o4, B6⟩
  have N0 := kept B6 M0
  have N1 := kept B6 M1
  clear M0 M1
  have p3 := o3.below B6
  clear o3
  obtain ⟨x3, rfl, q3⟩ := id p3
  obtain ⟨x4, rfl, q4⟩ := id o4
  have P3 := Lib.hid p3
  have P4 := Lib.hid o4
  clear p3 o4 q3 q4
  go_wp2_with fail
  refine (bin_any _ _ _ _ _ _).mono ?_
  rintro e w7 ⟨bB, rfl, HB, B7⟩
  have HBh := Lib.hid HB
  clear HB
  have R0 := kept B7 N0
  have R1 := kept B7 N1
  have zl : w3.heap.size < w7.heap.size := World.block_lt_of_cell? _ _ R0
  clear N0 N1
  have T7 : Below w2.heap.size w2 w7 := bel2 (bel2 (bel2 (bel2 B3 B34) B5) B6) B7
  have S7 : Below w3.heap.size w3 w7 := bel2 (bel2 (bel2 B34 B5) B6) B7
  have BW : Below w.heap.size w w7 := bel2 (bel2 B1 B2) T7
  go_wp2_with fail
  have al := Lib.hid (fun o => (show Below w7.heap.size w7 (w7.alloc o) from (Below.refl _ _).alloc (Nat.le_refl _) _))
  refine (HC.out _ _ _ _ bA bB _ ((P1.out.below T7).below (al.out _)) ((P2.out.below T7).below (al.out _)) ((P3.out.below B7).below (al.out _)) ((P4.out.below B7).below (al.out _)) ((Bin.below (Bin.below HAh.out S7)) (al.out _)) (Bin.below HBh.out (al.out _))).mono ?_
  rintro e w8 ⟨rfl, B8⟩
  have BW8 : Below w.heap.size w w8 := (BW.alloc BW.size _).trans (B8.mono (by have := BW.size; simp; omega))
  have T8 := Lib.hid ((al.out _).trans (B8.mono (al.out _).size))
  clear B8 R0 R1 zl B1 B2 B3 B34 B5 B6 BW
  go_wp2_with fail
  refine (shape_any n1 n2 _ _ _ _ _ a1 b1 a2 b2 l1 l2 E1.out E2.out).mono ?_
  rintro e w' ⟨rfl, rfl⟩
  rw [HQ1.out, HZ1.out, HO1.out]
  go_wp2_with fail
  refine (shape_any n3 n4 _ _ _ _ _ a3 b3 a4 b4 l3 l4 E3.out E4.out).mono ?_
  rintro e w' ⟨rfl, rfl⟩
  rw [HQ2.out, HZ2.out, HO2.out]
  go_wp2_with fail
  refine (nil_any _).mono ?_
  rintro e w9 ⟨rfl, B9⟩
  have y0 : w9.cell? ⟨w8.heap.size + 1, 0, none⟩ = some .nilIface := by rw [B9.cell (by simp; try omega)]; simp [go_sem]
  have y1 : w9.cell? ⟨w8.heap.size + 1, 1, none⟩ = some (.int .i32 0) := by rw [B9.cell (by simp; try omega)]; simp [go_sem]
  have BW9 : Below w.heap.size w w9 := ((BW8.alloc BW8.size _).alloc (by have := BW8.size; simp; omega) _).trans (B9.mono (by have := BW8.size; simp; omega))
  clear B9
  go_wp2_with fail
  refine (nil_any _).mono ?_
  rintro e w10 ⟨rfl, B10⟩
  go_wp2_with fail
  go_ret
  exact ⟨rfl, bel2 BW9 B10⟩

set_option maxRecDepth 100000 in
set_option maxHeartbeats 4000000 in
theorem w_lit (op opL opR : Int) (n1 n2 n3 n4 : Nat) (k1 k2 k3 k4 r1 r2 r3 r4 : Int) (w : World) (a1 : 0 ≤ k1) (b1 : k1 ≤ 255) (a2 : 0 ≤ k2) (b2 : k2 ≤ 255) (a3 : 0 ≤ k3) (b3 : k3 ≤ 255) (a4 : 0 ≤ k4) (b4 : k4 ≤ 255) (l1 : n1 < 4) (l2 : n2 < 4) (l3 : n3 < 4) (l4 : n4 < 4) (e1 : k1 % 4 = n1) (e2 : k2 % 4 = n2) (e3 : k3 % 4 = n3) (e4 : k4 % 4 = n4) (hl : (opL == op) = true) (hr : (opR == op) = true) (hoa : okS n1 n2 = true) (hob : okS n3 n4 = true) (hrf : (refS n1 n2 r1 r2 == refS n3 n4 r3 r4) = true) (hlt : (litS n1 n2 != litS n3 n4) = false)
    (C : ∀ (v1 v2 v3 v4 : Value) (bA bB : Nat) (W : World), Opd W n1 r1 v1 → Opd W n2 r2 v2 → Opd W n3 r3 v3 → Opd W n4 r4 v4 → Bin W bA v1 0 v2 0 opL → Bin W bB v3 0 v4 0 opR → Calls Try.prog 8 #[.agg #[.iface 68 (.pointer (some ⟨bA, 0, none⟩)), .int .i32 0], .agg #[.iface 68 (.pointer (some ⟨bB, 0, none⟩)), .int .i32 0], .int .u8 op] W fun e w' => e = .returned (.tuple #[.agg #[.nilIface, .int .i32 0], .agg #[.nilIface, .int .i32 0], .bool false]) ∧ Below W.heap.size W w') :
    Calls Try.prog 3 #[.int .u8 op, .int .u8 opL, .int .u8 opR, .int .u8 k1, .int .u8 k2, .int .u8 k3, .int .u8 k4, .int .u32 r1, .int .u32 r2, .int .u32 r3, .int .u32 r4] w fun e w' => e = .returned (.bool true) ∧ Below w.heap.size w w' := by
  have HC := Lib.hid C
  have E1 := Lib.hid e1
  have E2 := Lib.hid e2
  have E3 := Lib.hid e3
  have E4 := Lib.hid e4
  clear C e1 e2 e3 e4
  obtain ⟨q1, hq1⟩ : ∃ q, refS n1 n2 r1 r2 = q := ⟨_, rfl⟩
  obtain ⟨q2, hq2⟩ : ∃ q, refS n3 n4 r3 r4 = q := ⟨_, rfl⟩
  obtain ⟨z1, hz1⟩ : ∃ q, litS n1 n2 = q := ⟨_, rfl⟩
  obtain ⟨z2, hz2⟩ : ∃ q, litS n3 n4 = q := ⟨_, rfl⟩
  have ho1 := hoa
  have ho2 := hob
  rw [hq1, hq2] at hrf
  rw [hz1, hz2] at hlt
  have HQ1 := Lib.hid hq1
  have HQ2 := Lib.hid hq2
  have HZ1 := Lib.hid hz1
  have HZ2 := Lib.hid hz2
  have HO1 := Lib.hid ho1
  have HO2 := Lib.hid ho2
  clear hq1 hq2 hz1 hz2 ho1 ho2 hoa hob

  go_enter Try.func3, Try.ntmps3
  go_wp2_with fail
  refine (mk_any n1 _ _ _ a1 b1 l1 E1.out).mono ?_
  rintro e w1 ⟨v1, rfl, o1, B1⟩
  go_wp2_with fail
  refine (mk_any n2 _ _ _ a2 b2 l2 E2.out).mono ?_
  rintro e w2 ⟨v2, rfl, o2, B2⟩
  have p1 := o1.below B2
  clear o1
  obtain ⟨x1, rfl, q1⟩ := id p1
  obtain ⟨x2, rfl, q2⟩ := id o2
  have P1 := Lib.hid p1
  have P2 := Lib.hid o2
  clear p1 o2 q1 q2
  go_wp2_with fail
  refine (bin_any _ _ _ _ _ _).mono ?_
  rintro e w3 ⟨bA, rfl, HA, B3⟩
  have HAh := Lib.hid HA
  clear HA
  go_wp2_with fail
  obtain ⟨W4, hW4⟩ : ∃ W4, W4 = w3.alloc (Obj.cells #[.iface 68 (.pointer (some ⟨bA, 0, none⟩)), .int .i32 0] 28) := ⟨_, rfl⟩
  rw [← hW4]
  have B34 : Below w3.heap.size w3 W4 := by rw [hW4]; exact (Below.refl _ _).alloc (Nat.le_refl _) _
  have L0 : W4.cell? ⟨w3.heap.size, 0, none⟩ = some (.iface 68 (.pointer (some ⟨bA, 0, none⟩))) := by rw [hW4]; simp [go_sem]
  have L1 : W4.cell? ⟨w3.heap.size, 1, none⟩ = some (.int .i32 0) := by rw [hW4]; simp [go_sem]
  clear hW4
  refine (mk_any n3 _ _ _ a3 b3 l3 E3.out).mono ?_
  rintro e w5 ⟨v3, rfl, o3, B5⟩
  have M0 := kept B5 L0
  have M1 := kept B5 L1
  clear L0 L1
  go_wp2_with fail
  refine (mk_any n4 _ _ _ a4 b4 l4 E4.out).mono ?_
  rintro e w6 ⟨v4, rfl, o4, B6⟩
  have N0 := kept B6 M0
  have N1 := kept B6 M1
  clear M0 M1
  have p3 := o3.below B6
  clear o3
  obtain ⟨x3, rfl, q3⟩ := id p3
  obtain ⟨x4, rfl, q4⟩ := id o4
  have P3 := Lib.hid p3
  have P4 := Lib.hid o4
  clear p3 o4 q3 q4
  go_wp2_with fail
  refine (bin_any _ _ _ _ _ _).mono ?_
  rintro e w7 ⟨bB, rfl, HB, B7⟩
  have HBh := Lib.hid HB
  clear HB
  have R0 := kept B7 N0
  have R1 := kept B7 N1
  have zl : w3.heap.size < w7.heap.size := World.block_lt_of_cell? _ _ R0
  clear N0 N1
  have T7 : Below w2.heap.size w2 w7 := bel2 (bel2 (bel2 (bel2 B3 B34) B5) B6) B7
  have S7 : Below w3.heap.size w3 w7 := bel2 (bel2 (bel2 B34 B5) B6) B7
  have BW : Below w.heap.size w w7 := bel2 (bel2 B1 B2) T7
  go_wp2_with fail
  have al := Lib.hid (fun o => (show Below w7.heap.size w7 (w7.alloc o) from (Below.refl _ _).alloc (Nat.le_refl _) _))
  refine (HC.out _ _ _ _ bA bB _ ((P1.out.below T7).below (al.out _)) ((P2.out.below T7).below (al.out _)) ((P3.out.below B7).below (al.out _)) ((P4.out.below B7).below (al.out _)) ((Bin.below (Bin.below HAh.out S7)) (al.out _)) (Bin.below HBh.out (al.out _))).mono ?_
  rintro e w8 ⟨rfl, B8⟩
  have BW8 : Below w.heap.size w w8 := (BW.alloc BW.size _).trans (B8.mono (by have := BW.size; simp; omega))
  have T8 := Lib.hid ((al.out _).trans (B8.mono (al.out _).size))
  clear B8 R0 R1 zl B1 B2 B3 B34 B5 B6 BW
  go_wp2_with fail
  refine (shape_any n1 n2 _ _ _ _ _ a1 b1 a2 b2 l1 l2 E1.out E2.out).mono ?_
  rintro e w' ⟨rfl, rfl⟩
  rw [HQ1.out, HZ1.out, HO1.out]
  go_wp2_with fail
  refine (shape_any n3 n4 _ _ _ _ _ a3 b3 a4 b4 l3 l4 E3.out E4.out).mono ?_
  rintro e w' ⟨rfl, rfl⟩
  rw [HQ2.out, HZ2.out, HO2.out]
  go_wp2_with fail
  refine (nil_any _).mono ?_
  rintro e w9 ⟨rfl, B9⟩
  have y0 : w9.cell? ⟨w8.heap.size + 1, 0, none⟩ = some .nilIface := by rw [B9.cell (by simp; try omega)]; simp [go_sem]
  have y1 : w9.cell? ⟨w8.heap.size + 1, 1, none⟩ = some (.int .i32 0) := by rw [B9.cell (by simp; try omega)]; simp [go_sem]
  have BW9 : Below w.heap.size w w9 := ((BW8.alloc BW8.size _).alloc (by have := BW8.size; simp; omega) _).trans (B9.mono (by have := BW8.size; simp; omega))
  clear B9
  go_wp2_with fail
  refine (nil_any _).mono ?_
  rintro e w10 ⟨rfl, B10⟩
  go_wp2_with fail
  go_ret
  exact ⟨rfl, bel2 BW9 B10⟩

set_option maxRecDepth 100000 in
set_option maxHeartbeats 4000000 in
theorem w_A (op opL opR : Int) (n1 n2 n3 n4 : Nat) (k1 k2 k3 k4 r1 r2 r3 r4 : Int) (w : World) (a1 : 0 ≤ k1) (b1 : k1 ≤ 255) (a2 : 0 ≤ k2) (b2 : k2 ≤ 255) (a3 : 0 ≤ k3) (b3 : k3 ≤ 255) (a4 : 0 ≤ k4) (b4 : k4 ≤ 255) (l1 : n1 < 4) (l2 : n2 < 4) (l3 : n3 < 4) (l4 : n4 < 4) (e1 : k1 % 4 = n1) (e2 : k2 % 4 = n2) (e3 : k3 % 4 = n3) (e4 : k4 % 4 = n4) (hl : (opL == op) = true) (hr : (opR == op) = true) (hoa : okS n1 n2 = true) (hob : okS n3 n4 = true) (hrf : (refS n1 n2 r1 r2 == refS n3 n4 r3 r4) = true) (hl1 : litS n1 n2 = 1) (hl2 : litS n3 n4 = 2)
    (C : ∀ (v1 v2 v3 v4 : Value) (bA bB : Nat) (W : World), Opd W n1 r1 v1 → Opd W n2 r2 v2 → Opd W n3 r3 v3 → Opd W n4 r4 v4 → Bin W bA v1 0 v2 0 opL → Bin W bB v3 0 v4 0 opR → Calls Try.prog 8 #[.agg #[.iface 68 (.pointer (some ⟨bA, 0, none⟩)), .int .i32 0], .agg #[.iface 68 (.pointer (some ⟨bB, 0, none⟩)), .int .i32 0], .int .u8 op] W fun e w' => e = .returned (.tuple #[.agg #[v1, .int .i32 0], .agg #[v2, .int .i32 0], .bool true]) ∧ Below W.heap.size W w') :
    Calls Try.prog 3 #[.int .u8 op, .int .u8 opL, .int .u8 opR, .int .u8 k1, .int .u8 k2, .int .u8 k3, .int .u8 k4, .int .u32 r1, .int .u32 r2, .int .u32 r3, .int .u32 r4] w fun e w' => e = .returned (.bool true) ∧ Below w.heap.size w w' := by
  have HC := Lib.hid C
  have E1 := Lib.hid e1
  have E2 := Lib.hid e2
  have E3 := Lib.hid e3
  have E4 := Lib.hid e4
  clear C e1 e2 e3 e4
  obtain ⟨q1, hq1⟩ : ∃ q, refS n1 n2 r1 r2 = q := ⟨_, rfl⟩
  obtain ⟨q2, hq2⟩ : ∃ q, refS n3 n4 r3 r4 = q := ⟨_, rfl⟩
  have hz1 := hl1
  have hz2 := hl2
  have ho1 := hoa
  have ho2 := hob
  rw [hq1, hq2] at hrf
  have HQ1 := Lib.hid hq1
  have HQ2 := Lib.hid hq2
  have HZ1 := Lib.hid hz1
  have HZ2 := Lib.hid hz2
  have HO1 := Lib.hid ho1
  have HO2 := Lib.hid ho2
  clear hq1 hq2 hz1 hz2 ho1 ho2 hoa hob hl1 hl2

  go_enter Try.func3, Try.ntmps3
  go_wp2_with fail
  refine (mk_any n1 _ _ _ a1 b1 l1 E1.out).mono ?_
  rintro e w1 ⟨v1, rfl, o1, B1⟩
  go_wp2_with fail
  refine (mk_any n2 _ _ _ a2 b2 l2 E2.out).mono ?_
  rintro e w2 ⟨v2, rfl, o2, B2⟩
  have p1 := o1.below B2
  clear o1
  obtain ⟨x1, rfl, q1⟩ := id p1
  obtain ⟨x2, rfl, q2⟩ := id o2
  have P1 := Lib.hid p1
  have P2 := Lib.hid o2
  clear p1 o2 q1 q2
  go_wp2_with fail
  refine (bin_any _ _ _ _ _ _).mono ?_
  rintro e w3 ⟨bA, rfl, HA, B3⟩
  have HAh := Lib.hid HA
  clear HA
  go_wp2_with fail
  obtain ⟨W4, hW4⟩ : ∃ W4, W4 = w3.alloc (Obj.cells #[.iface 68 (.pointer (some ⟨bA, 0, none⟩)), .int .i32 0] 28) := ⟨_, rfl⟩
  rw [← hW4]
  have B34 : Below w3.heap.size w3 W4 := by rw [hW4]; exact (Below.refl _ _).alloc (Nat.le_refl _) _
  have L0 : W4.cell? ⟨w3.heap.size, 0, none⟩ = some (.iface 68 (.pointer (some ⟨bA, 0, none⟩))) := by rw [hW4]; simp [go_sem]
  have L1 : W4.cell? ⟨w3.heap.size, 1, none⟩ = some (.int .i32 0) := by rw [hW4]; simp [go_sem]
  clear hW4
  refine (mk_any n3 _ _ _ a3 b3 l3 E3.out).mono ?_
  rintro e w5 ⟨v3, rfl, o3, B5⟩
  have M0 := kept B5 L0
  have M1 := kept B5 L1
  clear L0 L1
  go_wp2_with fail
  refine (mk_any n4 _ _ _ a4 b4 l4 E4.out).mono ?_
  rintro e w6 ⟨v4, rfl, o4, B6⟩
  have N0 := kept B6 M0
  have N1 := kept B6 M1
  clear M0 M1
  have p3 := o3.below B6
  clear o3
  obtain ⟨x3, rfl, q3⟩ := id p3
  obtain ⟨x4, rfl, q4⟩ := id o4
  have P3 := Lib.hid p3
  have P4 := Lib.hid o4
  clear p3 o4 q3 q4
  go_wp2_with fail
  refine (bin_any _ _ _ _ _ _).mono ?_
  rintro e w7 ⟨bB, rfl, HB, B7⟩
  have HBh := Lib.hid HB
  clear HB
  have R0 := kept B7 N0
  have R1 := kept B7 N1
  have zl : w3.heap.size < w7.heap.size := World.block_lt_of_cell? _ _ R0
  clear N0 N1
  have T7 : Below w2.heap.size w2 w7 := bel2 (bel2 (bel2 (bel2 B3 B34) B5) B6) B7
  have S7 : Below w3.heap.size w3 w7 := bel2 (bel2 (bel2 B34 B5) B6) B7
  have BW : Below w.heap.size w w7 := bel2 (bel2 B1 B2) T7
  go_wp2_with fail
  have al := Lib.hid (fun o => (show Below w7.heap.size w7 (w7.alloc o) from (Below.refl _ _).alloc (Nat.le_refl _) _))
  refine (HC.out _ _ _ _ bA bB _ ((P1.out.below T7).below (al.out _)) ((P2.out.below T7).below (al.out _)) ((P3.out.below B7).below (al.out _)) ((P4.out.below B7).below (al.out _)) ((Bin.below (Bin.below HAh.out S7)) (al.out _)) (Bin.below HBh.out (al.out _))).mono ?_
  rintro e w8 ⟨rfl, B8⟩
  have BW8 : Below w.heap.size w w8 := (BW.alloc BW.size _).trans (B8.mono (by have := BW.size; simp; omega))
  have T8 := Lib.hid ((al.out _).trans (B8.mono (al.out _).size))
  clear B8 R0 R1 zl B1 B2 B3 B34 B5 B6 BW
  go_wp2_with fail
  refine (shape_any n1 n2 _ _ _ _ _ a1 b1 a2 b2 l1 l2 E1.out E2.out).mono ?_
  rintro e w' ⟨rfl, rfl⟩
  rw [HQ1.out, HZ1.out, HO1.out]
  go_wp2_with fail
  refine (shape_any n3 n4 _ _ _ _ _ a3 b3 a4 b4 l3 l4 E3.out E4.out).mono ?_
  rintro e w' ⟨rfl, rfl⟩
  rw [HQ2.out, HZ2.out, HO2.out]
  go_wp2_with fail
  have al2 := Lib.hid (fun o1 o2 => (show Below w8.heap.size w8 ((w8.alloc o1).alloc o2) from ((Below.refl _ _).alloc (Nat.le_refl _) _).alloc (by simp) _))
  refine (is_any n1 _ _ _ _ a1 b1 l1 E1.out (((P1.out.below T7).below T8.out).below (al2.out _ _))).mono ?_
  rintro e w9 ⟨rfl, B9⟩
  have y0 : w9.cell? ⟨w8.heap.size + 1, 0, none⟩ = some (.iface (typ n2) (.pointer (some ⟨x2, 0, none⟩))) := by rw [B9.cell (by simp; try omega)]; simp [go_sem]
  have y1 : w9.cell? ⟨w8.heap.size + 1, 1, none⟩ = some (.int .i32 0) := by rw [B9.cell (by simp; try omega)]; simp [go_sem]
  have BW9 : Below w.heap.size w w9 := ((BW8.alloc BW8.size _).alloc (by have := BW8.size; simp; omega) _).trans (B9.mono (by have := BW8.size; simp; omega))
  have Q := Lib.hid ((((P2.out.below T7).below T8.out).below (al2.out _ _)).below B9)
  clear B9
  go_wp2_with fail
  refine (is_any n2 _ _ _ _ a2 b2 l2 E2.out Q.out).mono ?_
  rintro e w10 ⟨rfl, B10⟩
  go_wp2_with fail
  go_ret
  exact ⟨rfl, bel2 BW9 B10⟩

set_option maxRecDepth 100000 in
set_option maxHeartbeats 4000000 in
theorem w_B (op opL opR : Int) (n1 n2 n3 n4 : Nat) (k1 k2 k3 k4 r1 r2 r3 r4 : Int) (w : World) (a1 : 0 ≤ k1) (b1 : k1 ≤ 255) (a2 : 0 ≤ k2) (b2 : k2 ≤ 255) (a3 : 0 ≤ k3) (b3 : k3 ≤ 255) (a4 : 0 ≤ k4) (b4 : k4 ≤ 255) (l1 : n1 < 4) (l2 : n2 < 4) (l3 : n3 < 4) (l4 : n4 < 4) (e1 : k1 % 4 = n1) (e2 : k2 % 4 = n2) (e3 : k3 % 4 = n3) (e4 : k4 % 4 = n4) (hl : (opL == op) = true) (hr : (opR == op) = true) (hoa : okS n1 n2 = true) (hob : okS n3 n4 = true) (hrf : (refS n1 n2 r1 r2 == refS n3 n4 r3 r4) = true) (hl1 : litS n1 n2 = 2) (hl2 : litS n3 n4 = 1)
    (C : ∀ (v1 v2 v3 v4 : Value) (bA bB : Nat) (W : World), Opd W n1 r1 v1 → Opd W n2 r2 v2 → Opd W n3 r3 v3 → Opd W n4 r4 v4 → Bin W bA v1 0 v2 0 opL → Bin W bB v3 0 v4 0 opR → Calls Try.prog 8 #[.agg #[.iface 68 (.pointer (some ⟨bA, 0, none⟩)), .int .i32 0], .agg #[.iface 68 (.pointer (some ⟨bB, 0, none⟩)), .int .i32 0], .int .u8 op] W fun e w' => e = .returned (.tuple #[.agg #[v3, .int .i32 0], .agg #[v4, .int .i32 0], .bool true]) ∧ Below W.heap.size W w') :
    Calls Try.prog 3 #[.int .u8 op, .int .u8 opL, .int .u8 opR, .int .u8 k1, .int .u8 k2, .int .u8 k3, .int .u8 k4, .int .u32 r1, .int .u32 r2, .int .u32 r3, .int .u32 r4] w fun e w' => e = .returned (.bool true) ∧ Below w.heap.size w w' := by
  have HC := Lib.hid C
  have E1 := Lib.hid e1
  have E2 := Lib.hid e2
  have E3 := Lib.hid e3
  have E4 := Lib.hid e4
  clear C e1 e2 e3 e4
  obtain ⟨q1, hq1⟩ : ∃ q, refS n1 n2 r1 r2 = q := ⟨_, rfl⟩
  obtain ⟨q2, hq2⟩ : ∃ q, refS n3 n4 r3 r4 = q := ⟨_, rfl⟩
  have hz1 := hl1
  have hz2 := hl2
  have ho1 := hoa
  have ho2 := hob
  rw [hq1, hq2] at hrf
  have HQ1 := Lib.hid hq1
  have HQ2 := Lib.hid hq2
  have HZ1 := Lib.hid hz1
  have HZ2 := Lib.hid hz2
  have HO1 := Lib.hid ho1
  have HO2 := Lib.hid ho2
  clear hq1 hq2 hz1 hz2 ho1 ho2 hoa hob hl1 hl2

  go_enter Try.func3, Try.ntmps3
  go_wp2_with fail
  refine (mk_any n1 _ _ _ a1 b1 l1 E1.out).mono ?_
  rintro e w1 ⟨v1, rfl, o1, B1⟩
  go_wp2_with fail
  refine (mk_any n2 _ _ _ a2 b2 l2 E2.out).mono ?_
  rintro e w2 ⟨v2, rfl, o2, B2⟩
  have p1 := o1.below B2
  clear o1
  obtain ⟨x1, rfl, q1⟩ := id p1
  obtain ⟨x2, rfl, q2⟩ := id o2
  have P1 := Lib.hid p1
  have P2 := Lib.hid o2
  clear p1 o2 q1 q2
  go_wp2_with fail
  refine (bin_any _ _ _ _ _ _).mono ?_
  rintro e w3 ⟨bA, rfl, HA, B3⟩
  have HAh := Lib.hid HA
  clear HA
  go_wp2_with fail
  obtain ⟨W4, hW4⟩ : ∃ W4, W4 = w3.alloc (Obj.cells #[.iface 68 (.pointer (some ⟨bA, 0, none⟩)), .int .i32 0] 28) := ⟨_, rfl⟩
  rw [← hW4]
  have B34 : Below w3.heap.size w3 W4 := by rw [hW4]; exact (Below.refl _ _).alloc (Nat.le_refl _) _
  have L0 : W4.cell? ⟨w3.heap.size, 0, none⟩ = some (.iface 68 (.pointer (some ⟨bA, 0, none⟩))) := by rw [hW4]; simp [go_sem]
  have L1 : W4.cell? ⟨w3.heap.size, 1, none⟩ = some (.int .i32 0) := by rw [hW4]; simp [go_sem]
  clear hW4
  refine (mk_any n3 _ _ _ a3 b3 l3 E3.out).mono ?_
  rintro e w5 ⟨v3, rfl, o3, B5⟩
  have M0 := kept B5 L0
  have M1 := kept B5 L1
  clear L0 L1
  go_wp2_with fail
  refine (mk_any n4 _ _ _ a4 b4 l4 E4.out).mono ?_
  rintro e w6 ⟨v4, rfl, o4, B6⟩
  have N0 := kept B6 M0
  have N1 := kept B6 M1
  clear M0 M1
  have p3 := o3.below B6
  clear o3
  obtain ⟨x3, rfl, q3⟩ := id p3
  obtain ⟨x4, rfl, q4⟩ := id o4
  have P3 := Lib.hid p3
  have P4 := Lib.hid o4
  clear p3 o4 q3 q4
  go_wp2_with fail
  refine (bin_any _ _ _ _ _ _).mono ?_
  rintro e w7 ⟨bB, rfl, HB, B7⟩
  have HBh := Lib.hid HB
  clear HB
  have R0 := kept B7 N0
  have R1 := kept B7 N1
  have zl : w3.heap.size < w7.heap.size := World.block_lt_of_cell? _ _ R0
  clear N0 N1
  have T7 : Below w2.heap.size w2 w7 := bel2 (bel2 (bel2 (bel2 B3 B34) B5) B6) B7
  have S7 : Below w3.heap.size w3 w7 := bel2 (bel2 (bel2 B34 B5) B6) B7
  have BW : Below w.heap.size w w7 := bel2 (bel2 B1 B2) T7
  go_wp2_with fail
  have al := Lib.hid (fun o => (show Below w7.heap.size w7 (w7.alloc o) from (Below.refl _ _).alloc (Nat.le_refl _) _))
  refine (HC.out _ _ _ _ bA bB _ ((P1.out.below T7).below (al.out _)) ((P2.out.below T7).below (al.out _)) ((P3.out.below B7).below (al.out _)) ((P4.out.below B7).below (al.out _)) ((Bin.below (Bin.below HAh.out S7)) (al.out _)) (Bin.below HBh.out (al.out _))).mono ?_
  rintro e w8 ⟨rfl, B8⟩
  have BW8 : Below w.heap.size w w8 := (BW.alloc BW.size _).trans (B8.mono (by have := BW.size; simp; omega))
  have T8 := Lib.hid ((al.out _).trans (B8.mono (al.out _).size))
  clear B8 R0 R1 zl B1 B2 B3 B34 B5 B6 BW
  go_wp2_with fail
  refine (shape_any n1 n2 _ _ _ _ _ a1 b1 a2 b2 l1 l2 E1.out E2.out).mono ?_
  rintro e w' ⟨rfl, rfl⟩
  rw [HQ1.out, HZ1.out, HO1.out]
  go_wp2_with fail
  refine (shape_any n3 n4 _ _ _ _ _ a3 b3 a4 b4 l3 l4 E3.out E4.out).mono ?_
  rintro e w' ⟨rfl, rfl⟩
  rw [HQ2.out, HZ2.out, HO2.out]
  go_wp2_with fail
  have al2 := Lib.hid (fun o1 o2 => (show Below w8.heap.size w8 ((w8.alloc o1).alloc o2) from ((Below.refl _ _).alloc (Nat.le_refl _) _).alloc (by simp) _))
  refine (is_any n3 _ _ _ _ a3 b3 l3 E3.out (((P3.out.below B7).below T8.out).below (al2.out _ _))).mono ?_
  rintro e w9 ⟨rfl, B9⟩
  have y0 : w9.cell? ⟨w8.heap.size + 1, 0, none⟩ = some (.iface (typ n4) (.pointer (some ⟨x4, 0, none⟩))) := by rw [B9.cell (by simp; try omega)]; simp [go_sem]
  have y1 : w9.cell? ⟨w8.heap.size + 1, 1, none⟩ = some (.int .i32 0) := by rw [B9.cell (by simp; try omega)]; simp [go_sem]
  have BW9 : Below w.heap.size w w9 := ((BW8.alloc BW8.size _).alloc (by have := BW8.size; simp; omega) _).trans (B9.mono (by have := BW8.size; simp; omega))
  have Q := Lib.hid ((((P4.out.below B7).below T8.out).below (al2.out _ _)).below B9)
  clear B9
  go_wp2_with fail
  refine (is_any n4 _ _ _ _ a4 b4 l4 E4.out Q.out).mono ?_
  rintro e w10 ⟨rfl, B10⟩
  go_wp2_with fail
  go_ret
  exact ⟨rfl, bel2 BW9 B10⟩
end Go.Proofs.YtonhekaakddneaaRRR.fnIsBinaryNullAndUndefinedExactShape
