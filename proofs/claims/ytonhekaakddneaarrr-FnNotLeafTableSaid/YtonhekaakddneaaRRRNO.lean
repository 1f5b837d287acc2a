/- Proved here: Not from what MaybeSimplifyNot answers; the law's small helpers; the law's walk from contracts of what it calls. Conditions as stated. -/
import Derived.Test.YtonhekaakddneaaRRRNM
import Derived.WalkKit
import Derived.WalkSpells
import Derived.WalkLawsBesides
import Derived.Lib.Hide
import Derived.Lib.SliceRun
import Derived.Deep.RegionWith
namespace Go.Proofs.YtonhekaakddneaaRRR.fnNotLeafTable
open Go.RowKit
set_option linter.unusedSimpArgs false
set_option linter.unusedVariables false

def No2 (w : World) (e : Ending) (w' : World) : Prop :=
  e = .returned (.tuple #[.agg #[.nilIface, .int .i32 0], .bool false]) ∧ Below w.heap.size w w'
def IsU (t p : Nat) (n : Int) (w : World) (e : Ending) (w' : World) : Prop :=
  ∃ b, e = .returned (.agg #[.iface 57 (.pointer (some ⟨b, 0, none⟩)), .int .i32 n]) ∧ w'.cell? ⟨b, 0, none⟩ = some (.iface t (.pointer (some ⟨p, 0, none⟩))) ∧ w'.cell? ⟨b, 1, none⟩ = some (.int .i32 n) ∧ w'.cell? ⟨b, 2, none⟩ = some (.int .u8 3) ∧ Below w.heap.size w w'
set_option maxRecDepth 100000 in
set_option maxHeartbeats 1000000 in
theorem not_b (t p : Nat) (n : Int) (v : Bool) (w : World) (C : ∀ W, Below w.heap.size w W → Calls Try.prog 23 #[.agg #[.iface t (.pointer (some ⟨p, 0, none⟩)), .int .i32 n]] W (IsB2 v n W)) :
    Calls Try.prog 15 #[.agg #[.iface t (.pointer (some ⟨p, 0, none⟩)), .int .i32 n]] w (IsB v n w) := by
  have HC := Lib.hid C
  clear C
  go_enter Try.func15, Try.ntmps15
  go_wp2_with fail
  refine (HC.out _ (((Below.refl _ _).alloc (Nat.le_refl _) _).alloc (by simp) _)).mono ?_
  rintro e w1 ⟨q, rfl, hq, hb⟩
  have hz := hb.size
  simp at hz
  have d0 : w1.cell? ⟨w.heap.size + 1, 0, none⟩ = some .nilIface := by rw [hb.cell (by simp)]; simp [go_sem]
  have d1 : w1.cell? ⟨w.heap.size + 1, 1, none⟩ = some (.int .i32 0) := by rw [hb.cell (by simp)]; simp [go_sem]
  have f0 : w1.frozen? ⟨w.heap.size + 1, 0, none⟩ = false := by rw [hb.frozen (by simp)]; simp [go_sem]
  have f1 : w1.frozen? ⟨w.heap.size + 1, 1, none⟩ = false := by rw [hb.frozen (by simp)]; simp [go_sem]
  have hlt : w.heap.size + 1 < w1.heap.size := by omega
  have hqlt : q < w1.heap.size := World.block_lt_of_cell? _ _ hq
  have hqne : q ≠ w.heap.size + 1 := by rintro rfl; rw [hq] at d0; cases d0
  have BW : Below w.heap.size w w1 := (((Below.refl _ _).alloc (Nat.le_refl _) _).alloc (by simp) _ : Below w.heap.size w _).trans (hb.mono (by simp; omega))
  clear hb
  go_wp2_with fail
  exact bodyPost_ret (v := .agg #[.iface 53 (.pointer (some ⟨q, 0, none⟩)), .int .i32 n]) (by simp [results, Try.results15, go_sem, *]) rfl ⟨q, rfl, by simp [go_sem, *], (by repeat (first | with_reducible exact BW | (with_reducible refine Below.drew ?_) | (with_reducible refine Below.alloc ?_ (by have := BW.size; simp; try omega) _) | (with_reducible refine Below.setCell ?_ (by have := BW.size; simp; try omega) _)))⟩
set_option maxRecDepth 100000 in
set_option maxHeartbeats 1000000 in
theorem not_u (t p : Nat) (n : Int) (w : World) (C : ∀ W, Below w.heap.size w W → Calls Try.prog 23 #[.agg #[.iface t (.pointer (some ⟨p, 0, none⟩)), .int .i32 n]] W (No2 W)) :
    Calls Try.prog 15 #[.agg #[.iface t (.pointer (some ⟨p, 0, none⟩)), .int .i32 n]] w (IsU t p n w) := by
  have HC := Lib.hid C
  clear C
  go_enter Try.func15, Try.ntmps15
  go_wp2_with fail
  refine (HC.out _ (((Below.refl _ _).alloc (Nat.le_refl _) _).alloc (by simp) _)).mono ?_
  rintro e w1 ⟨rfl, hb⟩
  have hz := hb.size
  simp at hz
  have c0 : w1.cell? ⟨w.heap.size, 0, none⟩ = some (.iface t (.pointer (some ⟨p, 0, none⟩))) := by rw [hb.cell (by simp; omega)]; simp [go_sem]
  have c1 : w1.cell? ⟨w.heap.size, 1, none⟩ = some (.int .i32 n) := by rw [hb.cell (by simp; omega)]; simp [go_sem]
  have d0 : w1.cell? ⟨w.heap.size + 1, 0, none⟩ = some .nilIface := by rw [hb.cell (by simp)]; simp [go_sem]
  have d1 : w1.cell? ⟨w.heap.size + 1, 1, none⟩ = some (.int .i32 0) := by rw [hb.cell (by simp)]; simp [go_sem]
  have f0 : w1.frozen? ⟨w.heap.size + 1, 0, none⟩ = false := by rw [hb.frozen (by simp)]; simp [go_sem]
  have f1 : w1.frozen? ⟨w.heap.size + 1, 1, none⟩ = false := by rw [hb.frozen (by simp)]; simp [go_sem]
  have hlt : w.heap.size + 1 < w1.heap.size := by omega
  have hlt' : w.heap.size < w1.heap.size := by omega
  have g1 : w.heap.size < w1.heap.size + 1 := by omega
  have g2 : w.heap.size + 1 < w1.heap.size + 1 := by omega
  have g3 : w.heap.size + 1 < w1.heap.size + 1 + 1 := by omega
  have BW : Below w.heap.size w w1 := (((Below.refl _ _).alloc (Nat.le_refl _) _).alloc (by simp) _ : Below w.heap.size w _).trans (hb.mono (by simp; omega))
  clear hb
  go_wp2_with fail
  exact bodyPost_ret (v := .agg #[.iface 57 (.pointer (some ⟨w1.heap.size + 1, 0, none⟩)), .int .i32 n]) (by simp [results, Try.results15, go_sem, *]) rfl ⟨w1.heap.size + 1, rfl, by simp [go_sem, *], by simp [go_sem, *], by simp [go_sem, *], (by repeat (first | with_reducible exact BW | (with_reducible refine Below.drew ?_) | (with_reducible refine Below.alloc ?_ (by have := BW.size; simp; try omega) _) | (with_reducible refine Below.setCell ?_ (by have := BW.size; simp; try omega) _)))⟩

set_option maxRecDepth 100000 in
set_option maxHeartbeats 1000000 in
theorem no43 (p : Nat) (n : Int) (w : World) :
    Calls Try.prog 23 #[.agg #[.iface 43 (.pointer (some ⟨p, 0, none⟩)), .int .i32 n]] w (No2 w) := by
  go_enter Try.func23, Try.ntmps23
  go_wp2_with fail
  exact bodyPost_ret (v := .tuple #[.agg #[.nilIface, .int .i32 0], .bool false]) (by simp [results, Try.results23, go_sem]) rfl ⟨rfl, ((Below.refl _ _).alloc (Nat.le_refl _) _).alloc (by simp) _⟩

set_option maxRecDepth 100000 in
set_option maxHeartbeats 1000000 in
theorem no45 (p : Nat) (n : Int) (w : World) :
    Calls Try.prog 23 #[.agg #[.iface 45 (.pointer (some ⟨p, 0, none⟩)), .int .i32 n]] w (No2 w) := by
  go_enter Try.func23, Try.ntmps23
  go_wp2_with fail
  exact bodyPost_ret (v := .tuple #[.agg #[.nilIface, .int .i32 0], .bool false]) (by simp [results, Try.results23, go_sem]) rfl ⟨rfl, ((Below.refl _ _).alloc (Nat.le_refl _) _).alloc (by simp) _⟩

set_option maxRecDepth 100000 in
theorem kp53 (v : Value) (w : World) : Calls Try.prog 16 #[.iface 53 v] w fun e w' => e = .returned (.int .u8 4) ∧ w = w' := by
  go_enter Try.func16, Try.ntmps16
  go_wp2_with fail
  go_ret
  exact ⟨rfl, rfl⟩
set_option maxRecDepth 100000 in
theorem kp57 (b : Nat) (w : World) (h : w.cell? ⟨b, 2, none⟩ = some (.int .u8 3)) : Calls Try.prog 16 #[.iface 57 (.pointer (some ⟨b, 0, none⟩))] w fun e w' => e = .returned (.int .u8 4) ∧ w = w' := by
  go_enter Try.func16, Try.ntmps16
  go_wp2_with fail
  go_ret
  exact ⟨rfl, rfl⟩
set_option maxRecDepth 100000 in
theorem as18 (p : Nat) (w : World) : Calls Try.prog 18 #[.iface 53 (.pointer (some ⟨p, 0, none⟩))] w fun e w' => e = .returned (.pointer (some ⟨p, 0, none⟩)) ∧ w = w' := by
  go_enter Try.func18, Try.ntmps18
  go_wp2_with fail
  go_ret
  exact ⟨rfl, rfl⟩
set_option maxRecDepth 100000 in
theorem as19 (p : Nat) (w : World) : Calls Try.prog 19 #[.iface 57 (.pointer (some ⟨p, 0, none⟩))] w fun e w' => e = .returned (.pointer (some ⟨p, 0, none⟩)) ∧ w = w' := by
  go_enter Try.func19, Try.ntmps19
  go_wp2_with fail
  go_ret
  exact ⟨rfl, rfl⟩
set_option maxRecDepth 100000 in
theorem as20 (p : Nat) (w : World) : Calls Try.prog 20 #[.iface 43 (.pointer (some ⟨p, 0, none⟩))] w fun e w' => e = .returned (.pointer (some ⟨p, 0, none⟩)) ∧ w = w' := by
  go_enter Try.func20, Try.ntmps20
  go_wp2_with fail
  go_ret
  exact ⟨rfl, rfl⟩
set_option maxRecDepth 100000 in
theorem as21 (p : Nat) (w : World) : Calls Try.prog 21 #[.iface 44 (.pointer (some ⟨p, 0, none⟩))] w fun e w' => e = .returned (.pointer (some ⟨p, 0, none⟩)) ∧ w = w' := by
  go_enter Try.func21, Try.ntmps21
  go_wp2_with fail
  go_ret
  exact ⟨rfl, rfl⟩
set_option maxRecDepth 100000 in
theorem as22 (p : Nat) (w : World) : Calls Try.prog 22 #[.iface 45 (.pointer (some ⟨p, 0, none⟩))] w fun e w' => e = .returned (.pointer (some ⟨p, 0, none⟩)) ∧ w = w' := by
  go_enter Try.func22, Try.ntmps22
  go_wp2_with fail
  go_ret
  exact ⟨rfl, rfl⟩

set_option maxRecDepth 100000 in
set_option maxHeartbeats 4000000 in
theorem law_b (k : Int) (b : Bool) (x : Nat) (a : Option Addr) (len cap : Nat) (big : ByteArray) (loc : Int) (w : World) (zs : List Int) (hr : IsRow .u16 w a len cap zs) (hl : 2 * len + big.size ≤ 1048576) (T : Nat) (c : Option Addr → Nat → Option Value) (v : Bool)
    (M : ∀ a' cap' W, Calls Try.prog 14 #[.int .u8 k, .bool b, .float .f64 x, .slice a' len cap', .string big, .int .i32 loc] W (LP T loc (c a' cap') (fun _ => .pointer none) (fun _ => .pointer none) (fun _ => .pointer none) W))
    (C : ∀ a' cap' p W, (∀ u, c a' cap' = some u → W.cell? ⟨p, 0, none⟩ = some u) → Calls Try.prog 15 #[.agg #[.iface T (.pointer (some ⟨p, 0, none⟩)), .int .i32 loc]] W (IsB v loc W))
    (D : ∀ a' cap' W, Calls Try.prog 17 #[.int .u8 k, .bool b, .float .f64 x, .slice a' len cap', .string big] W fun e w' => e = .returned (.tuple #[.bool v, .bool true]) ∧ W = w') :
    Calls Try.prog 4 #[.int .u8 k, .bool b, .float .f64 x, .slice a len cap, .string big, .int .i32 loc] w fun e w' => e = .returned (.bool true) ∧ Below w.heap.size w w' := by
  have H := Lib.hid hr
  have HM := Lib.hid M
  have HC := Lib.hid C
  have HD := Lib.hid D
  clear hr M C D
  go_enter Try.func4, Try.ntmps4
  go_wp2_with (first | (go_at_call 12; refine (bytes_yes _ _ _ _ _ _ _ _ _ (by omega) (by omega) (by omega)).mono ?_; rintro e w' ⟨rfl, rfl⟩))
  refine (copyU_any a len cap zs w H.out (by omega)).mono ?_
  rintro e w1 ⟨a', cap', rfl, _, hrow, hb1⟩
  clear hrow H
  go_wp2_with fail
  refine (HM.out _ _ _).mono ?_
  rintro e w2 ⟨p, rfl, hp, hb2⟩
  have HP := Lib.hid hp
  clear hp
  have B2 : Below w.heap.size w w2 := bel2 hb1 hb2
  clear hb1 hb2
  go_wp2_with fail
  refine (HC.out _ _ p _ (fun u hu => kAlloc (HP.out u hu))).mono ?_
  rintro e w3 ⟨q, rfl, hq, hb3⟩
  have B3 : Below w.heap.size w w3 := (show Below w.heap.size w (w2.alloc _) from B2.alloc B2.size _).trans (hb3.mono (by have := B2.size; simp; omega))
  clear hb3
  have hqlt : q < w3.heap.size := World.block_lt_of_cell? _ _ hq
  go_wp2_with fail
  refine (kp53 _ _).mono ?_
  rintro e w' ⟨rfl, rfl⟩
  go_wp2_with fail
  refine (HD.out _ _ _).mono ?_
  rintro e w' ⟨rfl, rfl⟩
  go_wp2_with fail
  refine (as18 _ _).mono ?_
  rintro e w' ⟨rfl, rfl⟩
  go_wp2_with fail
  go_ret
  exact ⟨rfl, (by repeat (first | with_reducible exact B3 | (with_reducible refine Below.drew ?_) | (with_reducible refine Below.alloc ?_ (by have := B3.size; simp; try omega) _) | (with_reducible refine Below.setCell ?_ (by have := B3.size; simp; try omega) _)))⟩

set_option maxRecDepth 100000 in
set_option maxHeartbeats 4000000 in
theorem law_b44 (k : Int) (b : Bool) (x : Nat) (a : Option Addr) (len cap : Nat) (big : ByteArray) (loc : Int) (w : World) (zs : List Int) (hr : IsRow .u16 w a len cap zs) (hl : 2 * len + big.size ≤ 1048576) (c : Option Addr → Nat → Option Value) (v : Bool)
    (M : ∀ a' cap' W, Calls Try.prog 14 #[.int .u8 k, .bool b, .float .f64 x, .slice a' len cap', .string big, .int .i32 loc] W (LP 44 loc (c a' cap') (fun _ => .pointer none) (fun b => .pointer (some ⟨b, 0, none⟩)) (fun _ => .pointer none) W))
    (C : ∀ a' cap' p W, (∀ u, c a' cap' = some u → W.cell? ⟨p, 0, none⟩ = some u) → Calls Try.prog 15 #[.agg #[.iface 44 (.pointer (some ⟨p, 0, none⟩)), .int .i32 loc]] W (IsB v loc W))
    (D : ∀ a' cap' W, Calls Try.prog 17 #[.int .u8 k, .bool b, .float .f64 x, .slice a' len cap', .string big] W fun e w' => e = .returned (.tuple #[.bool v, .bool true]) ∧ W = w') :
    Calls Try.prog 4 #[.int .u8 k, .bool b, .float .f64 x, .slice a len cap, .string big, .int .i32 loc] w fun e w' => e = .returned (.bool true) ∧ Below w.heap.size w w' := by
  have H := Lib.hid hr
  have HM := Lib.hid M
  have HC := Lib.hid C
  have HD := Lib.hid D
  clear hr M C D
  go_enter Try.func4, Try.ntmps4
  go_wp2_with (first | (go_at_call 12; refine (bytes_yes _ _ _ _ _ _ _ _ _ (by omega) (by omega) (by omega)).mono ?_; rintro e w' ⟨rfl, rfl⟩))
  refine (copyU_any a len cap zs w H.out (by omega)).mono ?_
  rintro e w1 ⟨a', cap', rfl, _, hrow, hb1⟩
  clear hrow H
  go_wp2_with fail
  refine (HM.out _ _ _).mono ?_
  rintro e w2 ⟨p, rfl, hp, hb2⟩
  have HP := Lib.hid hp
  clear hp
  have B2 : Below w.heap.size w w2 := bel2 hb1 hb2
  clear hb1 hb2
  go_wp2_with fail
  refine (HC.out _ _ p _ (fun u hu => kAlloc (HP.out u hu))).mono ?_
  rintro e w3 ⟨q, rfl, hq, hb3⟩
  have B3 : Below w.heap.size w w3 := (show Below w.heap.size w (w2.alloc _) from B2.alloc B2.size _).trans (hb3.mono (by have := B2.size; simp; omega))
  clear hb3
  have hqlt : q < w3.heap.size := World.block_lt_of_cell? _ _ hq
  go_wp2_with fail
  refine (kp53 _ _).mono ?_
  rintro e w' ⟨rfl, rfl⟩
  go_wp2_with fail
  refine (HD.out _ _ _).mono ?_
  rintro e w' ⟨rfl, rfl⟩
  go_wp2_with fail
  refine (as18 _ _).mono ?_
  rintro e w' ⟨rfl, rfl⟩
  go_wp2_with fail
  go_ret
  exact ⟨rfl, (by repeat (first | with_reducible exact B3 | (with_reducible refine Below.drew ?_) | (with_reducible refine Below.alloc ?_ (by have := B3.size; simp; try omega) _) | (with_reducible refine Below.setCell ?_ (by have := B3.size; simp; try omega) _)))⟩

set_option maxRecDepth 100000 in
set_option maxHeartbeats 4000000 in
theorem law_u43 (k : Int) (b : Bool) (x : Nat) (a : Option Addr) (len cap : Nat) (big : ByteArray) (loc : Int) (w : World) (zs : List Int) (hr : IsRow .u16 w a len cap zs) (hl : 2 * len + big.size ≤ 1048576) (c : Option Addr → Nat → Option Value)
    (M : ∀ a' cap' W, Calls Try.prog 14 #[.int .u8 k, .bool b, .float .f64 x, .slice a' len cap', .string big, .int .i32 loc] W (LP 43 loc (c a' cap') (fun b => .pointer (some ⟨b, 0, none⟩)) (fun _ => .pointer none) (fun _ => .pointer none) W))
    (C : ∀ a' cap' p W, (∀ u, c a' cap' = some u → W.cell? ⟨p, 0, none⟩ = some u) → Calls Try.prog 15 #[.agg #[.iface 43 (.pointer (some ⟨p, 0, none⟩)), .int .i32 loc]] W (IsU 43 p loc W))
    (D : ∀ a' cap' W, Calls Try.prog 17 #[.int .u8 k, .bool b, .float .f64 x, .slice a' len cap', .string big] W fun e w' => e = .returned (.tuple #[.bool false, .bool false]) ∧ W = w') :
    Calls Try.prog 4 #[.int .u8 k, .bool b, .float .f64 x, .slice a len cap, .string big, .int .i32 loc] w fun e w' => e = .returned (.bool true) ∧ Below w.heap.size w w' := by
  have H := Lib.hid hr
  have HM := Lib.hid M
  have HC := Lib.hid C
  have HD := Lib.hid D
  clear hr M C D
  go_enter Try.func4, Try.ntmps4
  go_wp2_with (first | (go_at_call 12; refine (bytes_yes _ _ _ _ _ _ _ _ _ (by omega) (by omega) (by omega)).mono ?_; rintro e w' ⟨rfl, rfl⟩))
  refine (copyU_any a len cap zs w H.out (by omega)).mono ?_
  rintro e w1 ⟨a', cap', rfl, _, hrow, hb1⟩
  clear hrow H
  go_wp2_with fail
  refine (HM.out _ _ _).mono ?_
  rintro e w2 ⟨p, rfl, hp, hb2⟩
  have HP := Lib.hid hp
  clear hp
  have B2 : Below w.heap.size w w2 := bel2 hb1 hb2
  clear hb1 hb2
  go_wp2_with fail
  refine (HC.out _ _ p _ (fun u hu => kAlloc (HP.out u hu))).mono ?_
  rintro e w3 ⟨q, rfl, q0, q1, q2, hb3⟩
  have B3 : Below w.heap.size w w3 := (show Below w.heap.size w (w2.alloc _) from B2.alloc B2.size _).trans (hb3.mono (by have := B2.size; simp; omega))
  clear hb3
  have hqlt : q < w3.heap.size := World.block_lt_of_cell? _ _ q0
  go_wp2_with fail
  refine (kp57 _ _ (by simp [go_sem, *])).mono ?_
  rintro e w' ⟨rfl, rfl⟩
  go_wp2_with fail
  refine (HD.out _ _ _).mono ?_
  rintro e w' ⟨rfl, rfl⟩
  go_wp2_with fail
  refine (as19 _ _).mono ?_
  rintro e w' ⟨rfl, rfl⟩
  go_wp2_with fail
  refine (as20 _ _).mono ?_
  rintro e w' ⟨rfl, rfl⟩
  go_wp2_with fail
  go_ret
  exact ⟨rfl, (by repeat (first | with_reducible exact B3 | (with_reducible refine Below.drew ?_) | (with_reducible refine Below.alloc ?_ (by have := B3.size; simp; try omega) _) | (with_reducible refine Below.setCell ?_ (by have := B3.size; simp; try omega) _)))⟩

set_option maxRecDepth 100000 in
set_option maxHeartbeats 4000000 in
theorem law_u44 (k : Int) (b : Bool) (x : Nat) (a : Option Addr) (len cap : Nat) (big : ByteArray) (loc : Int) (w : World) (zs : List Int) (hr : IsRow .u16 w a len cap zs) (hl : 2 * len + big.size ≤ 1048576) (c : Option Addr → Nat → Option Value)
    (M : ∀ a' cap' W, Calls Try.prog 14 #[.int .u8 k, .bool b, .float .f64 x, .slice a' len cap', .string big, .int .i32 loc] W (LP 44 loc (c a' cap') (fun _ => .pointer none) (fun b => .pointer (some ⟨b, 0, none⟩)) (fun _ => .pointer none) W))
    (C : ∀ a' cap' p W, (∀ u, c a' cap' = some u → W.cell? ⟨p, 0, none⟩ = some u) → Calls Try.prog 15 #[.agg #[.iface 44 (.pointer (some ⟨p, 0, none⟩)), .int .i32 loc]] W (IsU 44 p loc W))
    (D : ∀ a' cap' W, Calls Try.prog 17 #[.int .u8 k, .bool b, .float .f64 x, .slice a' len cap', .string big] W fun e w' => e = .returned (.tuple #[.bool false, .bool false]) ∧ W = w') :
    Calls Try.prog 4 #[.int .u8 k, .bool b, .float .f64 x, .slice a len cap, .string big, .int .i32 loc] w fun e w' => e = .returned (.bool true) ∧ Below w.heap.size w w' := by
  have H := Lib.hid hr
  have HM := Lib.hid M
  have HC := Lib.hid C
  have HD := Lib.hid D
  clear hr M C D
  go_enter Try.func4, Try.ntmps4
  go_wp2_with (first | (go_at_call 12; refine (bytes_yes _ _ _ _ _ _ _ _ _ (by omega) (by omega) (by omega)).mono ?_; rintro e w' ⟨rfl, rfl⟩))
  refine (copyU_any a len cap zs w H.out (by omega)).mono ?_
  rintro e w1 ⟨a', cap', rfl, _, hrow, hb1⟩
  clear hrow H
  go_wp2_with fail
  refine (HM.out _ _ _).mono ?_
  rintro e w2 ⟨p, rfl, hp, hb2⟩
  have HP := Lib.hid hp
  clear hp
  have B2 : Below w.heap.size w w2 := bel2 hb1 hb2
  clear hb1 hb2
  go_wp2_with fail
  refine (HC.out _ _ p _ (fun u hu => kAlloc (HP.out u hu))).mono ?_
  rintro e w3 ⟨q, rfl, q0, q1, q2, hb3⟩
  have B3 : Below w.heap.size w w3 := (show Below w.heap.size w (w2.alloc _) from B2.alloc B2.size _).trans (hb3.mono (by have := B2.size; simp; omega))
  clear hb3
  have hqlt : q < w3.heap.size := World.block_lt_of_cell? _ _ q0
  go_wp2_with fail
  refine (kp57 _ _ (by simp [go_sem, *])).mono ?_
  rintro e w' ⟨rfl, rfl⟩
  go_wp2_with fail
  refine (HD.out _ _ _).mono ?_
  rintro e w' ⟨rfl, rfl⟩
  go_wp2_with fail
  refine (as19 _ _).mono ?_
  rintro e w' ⟨rfl, rfl⟩
  go_wp2_with fail
  refine (as21 _ _).mono ?_
  rintro e w' ⟨rfl, rfl⟩
  go_wp2_with fail
  go_ret
  exact ⟨rfl, (by repeat (first | with_reducible exact B3 | (with_reducible refine Below.drew ?_) | (with_reducible refine Below.alloc ?_ (by have := B3.size; simp; try omega) _) | (with_reducible refine Below.setCell ?_ (by have := B3.size; simp; try omega) _)))⟩

set_option maxRecDepth 100000 in
set_option maxHeartbeats 4000000 in
theorem law_u45 (k : Int) (b : Bool) (x : Nat) (a : Option Addr) (len cap : Nat) (big : ByteArray) (loc : Int) (w : World) (zs : List Int) (hr : IsRow .u16 w a len cap zs) (hl : 2 * len + big.size ≤ 1048576) (c : Option Addr → Nat → Option Value)
    (M : ∀ a' cap' W, Calls Try.prog 14 #[.int .u8 k, .bool b, .float .f64 x, .slice a' len cap', .string big, .int .i32 loc] W (LP 45 loc (c a' cap') (fun _ => .pointer none) (fun _ => .pointer none) (fun b => .pointer (some ⟨b, 0, none⟩)) W))
    (C : ∀ a' cap' p W, (∀ u, c a' cap' = some u → W.cell? ⟨p, 0, none⟩ = some u) → Calls Try.prog 15 #[.agg #[.iface 45 (.pointer (some ⟨p, 0, none⟩)), .int .i32 loc]] W (IsU 45 p loc W))
    (D : ∀ a' cap' W, Calls Try.prog 17 #[.int .u8 k, .bool b, .float .f64 x, .slice a' len cap', .string big] W fun e w' => e = .returned (.tuple #[.bool false, .bool false]) ∧ W = w') :
    Calls Try.prog 4 #[.int .u8 k, .bool b, .float .f64 x, .slice a len cap, .string big, .int .i32 loc] w fun e w' => e = .returned (.bool true) ∧ Below w.heap.size w w' := by
  have H := Lib.hid hr
  have HM := Lib.hid M
  have HC := Lib.hid C
  have HD := Lib.hid D
  clear hr M C D
  go_enter Try.func4, Try.ntmps4
  go_wp2_with (first | (go_at_call 12; refine (bytes_yes _ _ _ _ _ _ _ _ _ (by omega) (by omega) (by omega)).mono ?_; rintro e w' ⟨rfl, rfl⟩))
  refine (copyU_any a len cap zs w H.out (by omega)).mono ?_
  rintro e w1 ⟨a', cap', rfl, _, hrow, hb1⟩
  clear hrow H
  go_wp2_with fail
  refine (HM.out _ _ _).mono ?_
  rintro e w2 ⟨p, rfl, hp, hb2⟩
  have HP := Lib.hid hp
  clear hp
  have B2 : Below w.heap.size w w2 := bel2 hb1 hb2
  clear hb1 hb2
  go_wp2_with fail
  refine (HC.out _ _ p _ (fun u hu => kAlloc (HP.out u hu))).mono ?_
  rintro e w3 ⟨q, rfl, q0, q1, q2, hb3⟩
  have B3 : Below w.heap.size w w3 := (show Below w.heap.size w (w2.alloc _) from B2.alloc B2.size _).trans (hb3.mono (by have := B2.size; simp; omega))
  clear hb3
  have hqlt : q < w3.heap.size := World.block_lt_of_cell? _ _ q0
  go_wp2_with fail
  refine (kp57 _ _ (by simp [go_sem, *])).mono ?_
  rintro e w' ⟨rfl, rfl⟩
  go_wp2_with fail
  refine (HD.out _ _ _).mono ?_
  rintro e w' ⟨rfl, rfl⟩
  go_wp2_with fail
  refine (as19 _ _).mono ?_
  rintro e w' ⟨rfl, rfl⟩
  go_wp2_with fail
  refine (as22 _ _).mono ?_
  rintro e w' ⟨rfl, rfl⟩
  go_wp2_with fail
  go_ret
  exact ⟨rfl, (by repeat (first | with_reducible exact B3 | (with_reducible refine Below.drew ?_) | (with_reducible refine Below.alloc ?_ (by have := B3.size; simp; try omega) _) | (with_reducible refine Below.setCell ?_ (by have := B3.size; simp; try omega) _)))⟩
end Go.Proofs.YtonhekaakddneaaRRR.fnNotLeafTable
