/- Proved here: contracts of the makers of leaves and nodes, and of the model's comparison of leaves. Conditions as stated. -/
import Derived.Test.YtgghakmfcodojaaDCB
import Derived.WalkKit
import Derived.WalkSpells
import Derived.WalkLawsBesides
import Derived.Lib.Hide
import Derived.Lib.SliceRun
import Derived.Deep.RegionWith
import Derived.Deep.QuietTactic
import Derived.BigQuiet
namespace Go.Proofs.Ytgghakmfcodojaa
open Go.RowKit
set_option linter.unusedSimpArgs false
set_option linter.unusedVariables false

/-- A new leaf of kind k. -/
def LfP (k x : Nat) (b : Bool) (a : Option Addr) (n c : Nat) (r : Int) (w : World) (e : Ending) (w' : World) : Prop :=
  ∃ p, e = .returned (.agg #[.iface (lty k) (.pointer (some ⟨p, 0, none⟩)), .int .i32 0]) ∧ LAt w' p k x b a n c r ∧ w.heap.size ≤ p ∧ Below w.heap.size w w'

set_option maxRecDepth 100000 in
set_option maxHeartbeats 1000000 in
theorem mk0 (x : Nat) (b : Bool) (a : Option Addr) (n c : Nat) (r : Int) (w : World) :
    Calls Try.prog 23 #[] w (LfP 0 x b a n c r w) := by
  go_enter Try.func23, Try.ntmps23
  go_wp2_with fail
  exact bodyPost_ret (v := .agg #[.iface 69 (.pointer (some ⟨w.heap.size + 1, 0, none⟩)), .int .i32 0]) (by simp [results, Try.results23, go_sem]) rfl ⟨w.heap.size + 1, rfl, ⟨by simp [go_sem], by simp [go_sem], by simp [go_sem], by simp [go_sem]⟩, by omega, (by repeat (first | with_reducible exact Below.refl _ _ | (with_reducible refine Below.drew ?_) | (with_reducible refine Below.alloc ?_ (by simp; try omega) _) | (with_reducible refine Below.setCell ?_ (by simp; try omega) _)))⟩

set_option maxRecDepth 100000 in
set_option maxHeartbeats 1000000 in
theorem mk1 (x : Nat) (b : Bool) (a : Option Addr) (n c : Nat) (r : Int) (w : World) :
    Calls Try.prog 24 #[] w (LfP 1 x b a n c r w) := by
  go_enter Try.func24, Try.ntmps24
  go_wp2_with fail
  exact bodyPost_ret (v := .agg #[.iface 70 (.pointer (some ⟨w.heap.size + 1, 0, none⟩)), .int .i32 0]) (by simp [results, Try.results24, go_sem]) rfl ⟨w.heap.size + 1, rfl, ⟨by simp [go_sem], by simp [go_sem], by simp [go_sem], by simp [go_sem]⟩, by omega, (by repeat (first | with_reducible exact Below.refl _ _ | (with_reducible refine Below.drew ?_) | (with_reducible refine Below.alloc ?_ (by simp; try omega) _) | (with_reducible refine Below.setCell ?_ (by simp; try omega) _)))⟩

set_option maxRecDepth 100000 in
set_option maxHeartbeats 1000000 in
theorem mk2 (x : Nat) (b : Bool) (a : Option Addr) (n c : Nat) (r : Int) (w : World) :
    Calls Try.prog 25 #[.bool b] w (LfP 2 x b a n c r w) := by
  go_enter Try.func25, Try.ntmps25
  go_wp2_with fail
  exact bodyPost_ret (v := .agg #[.iface 72 (.pointer (some ⟨w.heap.size + 1, 0, none⟩)), .int .i32 0]) (by simp [results, Try.results25, go_sem]) rfl ⟨w.heap.size + 1, rfl, ⟨by simp [go_sem], by simp [go_sem], by simp [go_sem], by simp [go_sem]⟩, by omega, (by repeat (first | with_reducible exact Below.refl _ _ | (with_reducible refine Below.drew ?_) | (with_reducible refine Below.alloc ?_ (by simp; try omega) _) | (with_reducible refine Below.setCell ?_ (by simp; try omega) _)))⟩

set_option maxRecDepth 100000 in
set_option maxHeartbeats 1000000 in
theorem mk3 (x : Nat) (b : Bool) (a : Option Addr) (n c : Nat) (r : Int) (w : World) :
    Calls Try.prog 26 #[.float .f64 x] w (LfP 3 x b a n c r w) := by
  go_enter Try.func26, Try.ntmps26
  go_wp2_with fail
  exact bodyPost_ret (v := .agg #[.iface 75 (.pointer (some ⟨w.heap.size + 1, 0, none⟩)), .int .i32 0]) (by simp [results, Try.results26, go_sem]) rfl ⟨w.heap.size + 1, rfl, ⟨by simp [go_sem], by simp [go_sem], by simp [go_sem], by simp [go_sem]⟩, by omega, (by repeat (first | with_reducible exact Below.refl _ _ | (with_reducible refine Below.drew ?_) | (with_reducible refine Below.alloc ?_ (by simp; try omega) _) | (with_reducible refine Below.setCell ?_ (by simp; try omega) _)))⟩

set_option maxRecDepth 100000 in
set_option maxHeartbeats 1000000 in
theorem mk4 (x : Nat) (b : Bool) (a : Option Addr) (n c : Nat) (r : Int) (w : World) :
    Calls Try.prog 27 #[.slice a n c] w (LfP 4 x b a n c r w) := by
  go_enter Try.func27, Try.ntmps27
  go_wp2_with fail
  exact bodyPost_ret (v := .agg #[.iface 82 (.pointer (some ⟨w.heap.size + 1, 0, none⟩)), .int .i32 0]) (by simp [results, Try.results27, go_sem]) rfl ⟨w.heap.size + 1, rfl, ⟨by simp [go_sem], by simp [go_sem], by simp [go_sem], by simp [go_sem]⟩, by omega, (by repeat (first | with_reducible exact Below.refl _ _ | (with_reducible refine Below.drew ?_) | (with_reducible refine Below.alloc ?_ (by simp; try omega) _) | (with_reducible refine Below.setCell ?_ (by simp; try omega) _)))⟩

set_option maxRecDepth 100000 in
set_option maxHeartbeats 1000000 in
theorem mk5 (x : Nat) (b : Bool) (a : Option Addr) (n c : Nat) (r : Int) (w : World) :
    Calls Try.prog 28 #[.int .u32 r] w (LfP 5 x b a n c r w) := by
  go_enter Try.func28, Try.ntmps28
  go_wp2_with fail
  exact bodyPost_ret (v := .agg #[.iface 88 (.pointer (some ⟨w.heap.size + 1, 0, none⟩)), .int .i32 0]) (by simp [results, Try.results28, go_sem]) rfl ⟨w.heap.size + 1, rfl, ⟨by simp [go_sem], by simp [go_sem], by simp [go_sem], by simp [go_sem]⟩, by omega, (by repeat (first | with_reducible exact Below.refl _ _ | (with_reducible refine Below.drew ?_) | (with_reducible refine Below.alloc ?_ (by simp; try omega) _) | (with_reducible refine Below.setCell ?_ (by simp; try omega) _)))⟩

set_option maxRecDepth 100000 in
set_option maxHeartbeats 1000000 in
theorem mk6 (x : Nat) (b : Bool) (a : Option Addr) (n c : Nat) (r : Int) (w : World) :
    Calls Try.prog 29 #[] w (LfP 6 x b a n c r w) := by
  go_enter Try.func29, Try.ntmps29
  go_wp2_with fail
  exact bodyPost_ret (v := .agg #[.iface 93 (.pointer (some ⟨w.heap.size + 1, 0, none⟩)), .int .i32 0]) (by simp [results, Try.results29, go_sem]) rfl ⟨w.heap.size + 1, rfl, ⟨by simp [go_sem], by simp [go_sem], by simp [go_sem], by simp [go_sem]⟩, by omega, (by repeat (first | with_reducible exact Below.refl _ _ | (with_reducible refine Below.drew ?_) | (with_reducible refine Below.alloc ?_ (by simp; try omega) _) | (with_reducible refine Below.setCell ?_ (by simp; try omega) _)))⟩

set_option maxRecDepth 100000 in
set_option maxHeartbeats 1000000 in
theorem leaf0 (k : Int) (x : Nat) (b : Bool) (a : Option Addr) (n c : Nat) (r : Int) (w : World) (h0 : 0 ≤ k) (h1 : k ≤ 255) (hk : k % 7 = 0) :
    Calls Try.prog 10 #[.int .u8 k, .float .f64 x, .bool b, .slice a n c, .int .u32 r] w (LfP 0 x b a n c r w) := by
  go_enter Try.func10, Try.ntmps10
  go_wp2_with fail
  refine (mk0 x b a n c r _).mono ?_
  rintro e w1 ⟨p, rfl, hp, hl, hb⟩
  have hz := hb.size
  simp at hz hl
  have d0 : w1.cell? ⟨w.heap.size, 0, none⟩ = some .nilIface := by rw [hb.cell (by simp)]; simp [go_sem]
  have d1 : w1.cell? ⟨w.heap.size, 1, none⟩ = some (.int .i32 0) := by rw [hb.cell (by simp)]; simp [go_sem]
  have f0 : w1.frozen? ⟨w.heap.size, 0, none⟩ = false := by rw [hb.frozen (by simp)]; simp [go_sem]
  have f1 : w1.frozen? ⟨w.heap.size, 1, none⟩ = false := by rw [hb.frozen (by simp)]; simp [go_sem]
  have BW : Below w.heap.size w w1 := (((Below.refl _ _).alloc (Nat.le_refl _) _) : Below w.heap.size w _).trans (hb.mono (by simp))
  have hlt : w.heap.size < w1.heap.size := by omega
  clear hb
  have HP := Lib.hid hp
  clear hp
  have e0 : lty 0 = 69 := rfl
  rw [e0]
  go_wp2_with fail
  exact bodyPost_ret (v := .agg #[.iface 69 (.pointer (some ⟨p, 0, none⟩)), .int .i32 0]) (by simp [results, Try.results10, go_sem, *]) rfl ⟨p, rfl, (HP.out.mono fun _ _ hc => kSet (kSet hc (by omega)) (by omega)), by omega, (by repeat (first | with_reducible exact BW | (with_reducible refine Below.drew ?_) | (with_reducible refine Below.alloc ?_ (by have := Below.size BW; simp; try omega) _) | (with_reducible refine Below.setCell ?_ (by have := Below.size BW; simp; try omega) _)))⟩

set_option maxRecDepth 100000 in
set_option maxHeartbeats 1000000 in
theorem leaf1 (k : Int) (x : Nat) (b : Bool) (a : Option Addr) (n c : Nat) (r : Int) (w : World) (h0 : 0 ≤ k) (h1 : k ≤ 255) (hk : k % 7 = 1) :
    Calls Try.prog 10 #[.int .u8 k, .float .f64 x, .bool b, .slice a n c, .int .u32 r] w (LfP 1 x b a n c r w) := by
  go_enter Try.func10, Try.ntmps10
  go_wp2_with fail
  refine (mk1 x b a n c r _).mono ?_
  rintro e w1 ⟨p, rfl, hp, hl, hb⟩
  have hz := hb.size
  simp at hz hl
  have d0 : w1.cell? ⟨w.heap.size, 0, none⟩ = some .nilIface := by rw [hb.cell (by simp)]; simp [go_sem]
  have d1 : w1.cell? ⟨w.heap.size, 1, none⟩ = some (.int .i32 0) := by rw [hb.cell (by simp)]; simp [go_sem]
  have f0 : w1.frozen? ⟨w.heap.size, 0, none⟩ = false := by rw [hb.frozen (by simp)]; simp [go_sem]
  have f1 : w1.frozen? ⟨w.heap.size, 1, none⟩ = false := by rw [hb.frozen (by simp)]; simp [go_sem]
  have BW : Below w.heap.size w w1 := (((Below.refl _ _).alloc (Nat.le_refl _) _) : Below w.heap.size w _).trans (hb.mono (by simp))
  have hlt : w.heap.size < w1.heap.size := by omega
  clear hb
  have HP := Lib.hid hp
  clear hp
  have e0 : lty 1 = 70 := rfl
  rw [e0]
  go_wp2_with fail
  exact bodyPost_ret (v := .agg #[.iface 70 (.pointer (some ⟨p, 0, none⟩)), .int .i32 0]) (by simp [results, Try.results10, go_sem, *]) rfl ⟨p, rfl, (HP.out.mono fun _ _ hc => kSet (kSet hc (by omega)) (by omega)), by omega, (by repeat (first | with_reducible exact BW | (with_reducible refine Below.drew ?_) | (with_reducible refine Below.alloc ?_ (by have := Below.size BW; simp; try omega) _) | (with_reducible refine Below.setCell ?_ (by have := Below.size BW; simp; try omega) _)))⟩

set_option maxRecDepth 100000 in
set_option maxHeartbeats 1000000 in
theorem leaf2 (k : Int) (x : Nat) (b : Bool) (a : Option Addr) (n c : Nat) (r : Int) (w : World) (h0 : 0 ≤ k) (h1 : k ≤ 255) (hk : k % 7 = 2) :
    Calls Try.prog 10 #[.int .u8 k, .float .f64 x, .bool b, .slice a n c, .int .u32 r] w (LfP 2 x b a n c r w) := by
  go_enter Try.func10, Try.ntmps10
  go_wp2_with fail
  refine (mk2 x b a n c r _).mono ?_
  rintro e w1 ⟨p, rfl, hp, hl, hb⟩
  have hz := hb.size
  simp at hz hl
  have d0 : w1.cell? ⟨w.heap.size, 0, none⟩ = some .nilIface := by rw [hb.cell (by simp)]; simp [go_sem]
  have d1 : w1.cell? ⟨w.heap.size, 1, none⟩ = some (.int .i32 0) := by rw [hb.cell (by simp)]; simp [go_sem]
  have f0 : w1.frozen? ⟨w.heap.size, 0, none⟩ = false := by rw [hb.frozen (by simp)]; simp [go_sem]
  have f1 : w1.frozen? ⟨w.heap.size, 1, none⟩ = false := by rw [hb.frozen (by simp)]; simp [go_sem]
  have BW : Below w.heap.size w w1 := (((Below.refl _ _).alloc (Nat.le_refl _) _) : Below w.heap.size w _).trans (hb.mono (by simp))
  have hlt : w.heap.size < w1.heap.size := by omega
  clear hb
  have HP := Lib.hid hp
  clear hp
  have e0 : lty 2 = 72 := rfl
  rw [e0]
  go_wp2_with fail
  exact bodyPost_ret (v := .agg #[.iface 72 (.pointer (some ⟨p, 0, none⟩)), .int .i32 0]) (by simp [results, Try.results10, go_sem, *]) rfl ⟨p, rfl, (HP.out.mono fun _ _ hc => kSet (kSet hc (by omega)) (by omega)), by omega, (by repeat (first | with_reducible exact BW | (with_reducible refine Below.drew ?_) | (with_reducible refine Below.alloc ?_ (by have := Below.size BW; simp; try omega) _) | (with_reducible refine Below.setCell ?_ (by have := Below.size BW; simp; try omega) _)))⟩

set_option maxRecDepth 100000 in
set_option maxHeartbeats 1000000 in
theorem leaf3 (k : Int) (x : Nat) (b : Bool) (a : Option Addr) (n c : Nat) (r : Int) (w : World) (h0 : 0 ≤ k) (h1 : k ≤ 255) (hk : k % 7 = 3) :
    Calls Try.prog 10 #[.int .u8 k, .float .f64 x, .bool b, .slice a n c, .int .u32 r] w (LfP 3 x b a n c r w) := by
  go_enter Try.func10, Try.ntmps10
  go_wp2_with fail
  refine (mk3 x b a n c r _).mono ?_
  rintro e w1 ⟨p, rfl, hp, hl, hb⟩
  have hz := hb.size
  simp at hz hl
  have d0 : w1.cell? ⟨w.heap.size, 0, none⟩ = some .nilIface := by rw [hb.cell (by simp)]; simp [go_sem]
  have d1 : w1.cell? ⟨w.heap.size, 1, none⟩ = some (.int .i32 0) := by rw [hb.cell (by simp)]; simp [go_sem]
  have f0 : w1.frozen? ⟨w.heap.size, 0, none⟩ = false := by rw [hb.frozen (by simp)]; simp [go_sem]
  have f1 : w1.frozen? ⟨w.heap.size, 1, none⟩ = false := by rw [hb.frozen (by simp)]; simp [go_sem]
  have BW : Below w.heap.size w w1 := (((Below.refl _ _).alloc (Nat.le_refl _) _) : Below w.heap.size w _).trans (hb.mono (by simp))
  have hlt : w.heap.size < w1.heap.size := by omega
  clear hb
  have HP := Lib.hid hp
  clear hp
  have e0 : lty 3 = 75 := rfl
  rw [e0]
  go_wp2_with fail
  exact bodyPost_ret (v := .agg #[.iface 75 (.pointer (some ⟨p, 0, none⟩)), .int .i32 0]) (by simp [results, Try.results10, go_sem, *]) rfl ⟨p, rfl, (HP.out.mono fun _ _ hc => kSet (kSet hc (by omega)) (by omega)), by omega, (by repeat (first | with_reducible exact BW | (with_reducible refine Below.drew ?_) | (with_reducible refine Below.alloc ?_ (by have := Below.size BW; simp; try omega) _) | (with_reducible refine Below.setCell ?_ (by have := Below.size BW; simp; try omega) _)))⟩

set_option maxRecDepth 100000 in
set_option maxHeartbeats 1000000 in
theorem leaf4 (k : Int) (x : Nat) (b : Bool) (a : Option Addr) (n c : Nat) (r : Int) (w : World) (h0 : 0 ≤ k) (h1 : k ≤ 255) (hk : k % 7 = 4) :
    Calls Try.prog 10 #[.int .u8 k, .float .f64 x, .bool b, .slice a n c, .int .u32 r] w (LfP 4 x b a n c r w) := by
  go_enter Try.func10, Try.ntmps10
  go_wp2_with fail
  refine (mk4 x b a n c r _).mono ?_
  rintro e w1 ⟨p, rfl, hp, hl, hb⟩
  have hz := hb.size
  simp at hz hl
  have d0 : w1.cell? ⟨w.heap.size, 0, none⟩ = some .nilIface := by rw [hb.cell (by simp)]; simp [go_sem]
  have d1 : w1.cell? ⟨w.heap.size, 1, none⟩ = some (.int .i32 0) := by rw [hb.cell (by simp)]; simp [go_sem]
  have f0 : w1.frozen? ⟨w.heap.size, 0, none⟩ = false := by rw [hb.frozen (by simp)]; simp [go_sem]
  have f1 : w1.frozen? ⟨w.heap.size, 1, none⟩ = false := by rw [hb.frozen (by simp)]; simp [go_sem]
  have BW : Below w.heap.size w w1 := (((Below.refl _ _).alloc (Nat.le_refl _) _) : Below w.heap.size w _).trans (hb.mono (by simp))
  have hlt : w.heap.size < w1.heap.size := by omega
  clear hb
  have HP := Lib.hid hp
  clear hp
  have e0 : lty 4 = 82 := rfl
  rw [e0]
  go_wp2_with fail
  exact bodyPost_ret (v := .agg #[.iface 82 (.pointer (some ⟨p, 0, none⟩)), .int .i32 0]) (by simp [results, Try.results10, go_sem, *]) rfl ⟨p, rfl, (HP.out.mono fun _ _ hc => kSet (kSet hc (by omega)) (by omega)), by omega, (by repeat (first | with_reducible exact BW | (with_reducible refine Below.drew ?_) | (with_reducible refine Below.alloc ?_ (by have := Below.size BW; simp; try omega) _) | (with_reducible refine Below.setCell ?_ (by have := Below.size BW; simp; try omega) _)))⟩

set_option maxRecDepth 100000 in
set_option maxHeartbeats 1000000 in
theorem leaf5 (k : Int) (x : Nat) (b : Bool) (a : Option Addr) (n c : Nat) (r : Int) (w : World) (h0 : 0 ≤ k) (h1 : k ≤ 255) (hk : k % 7 = 5) :
    Calls Try.prog 10 #[.int .u8 k, .float .f64 x, .bool b, .slice a n c, .int .u32 r] w (LfP 5 x b a n c r w) := by
  go_enter Try.func10, Try.ntmps10
  go_wp2_with fail
  refine (mk5 x b a n c r _).mono ?_
  rintro e w1 ⟨p, rfl, hp, hl, hb⟩
  have hz := hb.size
  simp at hz hl
  have d0 : w1.cell? ⟨w.heap.size, 0, none⟩ = some .nilIface := by rw [hb.cell (by simp)]; simp [go_sem]
  have d1 : w1.cell? ⟨w.heap.size, 1, none⟩ = some (.int .i32 0) := by rw [hb.cell (by simp)]; simp [go_sem]
  have f0 : w1.frozen? ⟨w.heap.size, 0, none⟩ = false := by rw [hb.frozen (by simp)]; simp [go_sem]
  have f1 : w1.frozen? ⟨w.heap.size, 1, none⟩ = false := by rw [hb.frozen (by simp)]; simp [go_sem]
  have BW : Below w.heap.size w w1 := (((Below.refl _ _).alloc (Nat.le_refl _) _) : Below w.heap.size w _).trans (hb.mono (by simp))
  have hlt : w.heap.size < w1.heap.size := by omega
  clear hb
  have HP := Lib.hid hp
  clear hp
  have e0 : lty 5 = 88 := rfl
  rw [e0]
  go_wp2_with fail
  exact bodyPost_ret (v := .agg #[.iface 88 (.pointer (some ⟨p, 0, none⟩)), .int .i32 0]) (by simp [results, Try.results10, go_sem, *]) rfl ⟨p, rfl, (HP.out.mono fun _ _ hc => kSet (kSet hc (by omega)) (by omega)), by omega, (by repeat (first | with_reducible exact BW | (with_reducible refine Below.drew ?_) | (with_reducible refine Below.alloc ?_ (by have := Below.size BW; simp; try omega) _) | (with_reducible refine Below.setCell ?_ (by have := Below.size BW; simp; try omega) _)))⟩

set_option maxRecDepth 100000 in
set_option maxHeartbeats 1000000 in
theorem leaf6 (k : Int) (x : Nat) (b : Bool) (a : Option Addr) (n c : Nat) (r : Int) (w : World) (h0 : 0 ≤ k) (h1 : k ≤ 255) (hk : k % 7 = 6) :
    Calls Try.prog 10 #[.int .u8 k, .float .f64 x, .bool b, .slice a n c, .int .u32 r] w (LfP 6 x b a n c r w) := by
  go_enter Try.func10, Try.ntmps10
  go_wp2_with fail
  refine (mk6 x b a n c r _).mono ?_
  rintro e w1 ⟨p, rfl, hp, hl, hb⟩
  have hz := hb.size
  simp at hz hl
  have d0 : w1.cell? ⟨w.heap.size, 0, none⟩ = some .nilIface := by rw [hb.cell (by simp)]; simp [go_sem]
  have d1 : w1.cell? ⟨w.heap.size, 1, none⟩ = some (.int .i32 0) := by rw [hb.cell (by simp)]; simp [go_sem]
  have f0 : w1.frozen? ⟨w.heap.size, 0, none⟩ = false := by rw [hb.frozen (by simp)]; simp [go_sem]
  have f1 : w1.frozen? ⟨w.heap.size, 1, none⟩ = false := by rw [hb.frozen (by simp)]; simp [go_sem]
  have BW : Below w.heap.size w w1 := (((Below.refl _ _).alloc (Nat.le_refl _) _) : Below w.heap.size w _).trans (hb.mono (by simp))
  have hlt : w.heap.size < w1.heap.size := by omega
  clear hb
  have HP := Lib.hid hp
  clear hp
  have e0 : lty 6 = 93 := rfl
  rw [e0]
  go_wp2_with fail
  exact bodyPost_ret (v := .agg #[.iface 93 (.pointer (some ⟨p, 0, none⟩)), .int .i32 0]) (by simp [results, Try.results10, go_sem, *]) rfl ⟨p, rfl, (HP.out.mono fun _ _ hc => kSet (kSet hc (by omega)) (by omega)), by omega, (by repeat (first | with_reducible exact BW | (with_reducible refine Below.drew ?_) | (with_reducible refine Below.alloc ?_ (by have := Below.size BW; simp; try omega) _) | (with_reducible refine Below.setCell ?_ (by have := Below.size BW; simp; try omega) _)))⟩

theorem leaf_any (k : Int) (x : Nat) (b : Bool) (a : Option Addr) (n c : Nat) (r : Int) (w : World) (h0 : 0 ≤ k) (h1 : k ≤ 255) :
    Calls Try.prog 10 #[.int .u8 k, .float .f64 x, .bool b, .slice a n c, .int .u32 r] w (LfP (k % 7).toNat x b a n c r w) := by
  have hk : k % 7 = 0 ∨ k % 7 = 1 ∨ k % 7 = 2 ∨ k % 7 = 3 ∨ k % 7 = 4 ∨ k % 7 = 5 ∨ k % 7 = 6 := by omega
  rcases hk with hk | hk | hk | hk | hk | hk | hk
  · rw [show (k % 7).toNat = 0 by omega]; exact leaf0 k x b a n c r w h0 h1 hk
  · rw [show (k % 7).toNat = 1 by omega]; exact leaf1 k x b a n c r w h0 h1 hk
  · rw [show (k % 7).toNat = 2 by omega]; exact leaf2 k x b a n c r w h0 h1 hk
  · rw [show (k % 7).toNat = 3 by omega]; exact leaf3 k x b a n c r w h0 h1 hk
  · rw [show (k % 7).toNat = 4 by omega]; exact leaf4 k x b a n c r w h0 h1 hk
  · rw [show (k % 7).toNat = 5 by omega]; exact leaf5 k x b a n c r w h0 h1 hk
  · rw [show (k % 7).toNat = 6 by omega]; exact leaf6 k x b a n c r w h0 h1 hk

set_option maxRecDepth 100000 in
set_option maxHeartbeats 1000000 in
theorem le_ne (k k' : Int) (x x' : Nat) (b b' : Bool) (a a' : Option Addr) (n c n' c' : Nat) (r r' : Int) (w : World) (h0 : 0 ≤ k) (h1 : k ≤ 255) (h0' : 0 ≤ k') (h1' : k' ≤ 255) (hk : (k % 7 == k' % 7) = false) (hk2 : (k % 7 != k' % 7) = true) :
    Calls Try.prog 12 #[.int .u8 k, .int .u8 k', .float .f64 x, .float .f64 x', .bool b, .bool b', .slice a n c, .slice a' n' c', .int .u32 r, .int .u32 r'] w (BPostQ false w) := by
  go_enter Try.func12, Try.ntmps12
  go_wp2_with fail
  go_ret
  exact ⟨rfl, ⟨0, rfl⟩⟩

set_option maxRecDepth 100000 in
set_option maxHeartbeats 1000000 in
theorem le0 (k k' : Int) (x x' : Nat) (b b' : Bool) (a a' : Option Addr) (n c n' c' : Nat) (r r' : Int) (w : World) (h0 : 0 ≤ k) (h1 : k ≤ 255) (h0' : 0 ≤ k') (h1' : k' ≤ 255) (hk : k % 7 = 0) (hk' : k' % 7 = 0) :
    Calls Try.prog 12 #[.int .u8 k, .int .u8 k', .float .f64 x, .float .f64 x', .bool b, .bool b', .slice a n c, .slice a' n' c', .int .u32 r, .int .u32 r'] w (BPostQ (true) w) := by
  go_enter Try.func12, Try.ntmps12
  go_wp2_with fail
  go_ret
  exact ⟨rfl, ⟨0, rfl⟩⟩

set_option maxRecDepth 100000 in
set_option maxHeartbeats 1000000 in
theorem le1 (k k' : Int) (x x' : Nat) (b b' : Bool) (a a' : Option Addr) (n c n' c' : Nat) (r r' : Int) (w : World) (h0 : 0 ≤ k) (h1 : k ≤ 255) (h0' : 0 ≤ k') (h1' : k' ≤ 255) (hk : k % 7 = 1) (hk' : k' % 7 = 1) :
    Calls Try.prog 12 #[.int .u8 k, .int .u8 k', .float .f64 x, .float .f64 x', .bool b, .bool b', .slice a n c, .slice a' n' c', .int .u32 r, .int .u32 r'] w (BPostQ (true) w) := by
  go_enter Try.func12, Try.ntmps12
  go_wp2_with fail
  go_ret
  exact ⟨rfl, ⟨0, rfl⟩⟩

set_option maxRecDepth 100000 in
set_option maxHeartbeats 1000000 in
theorem le2 (k k' : Int) (x x' : Nat) (b b' : Bool) (a a' : Option Addr) (n c n' c' : Nat) (r r' : Int) (w : World) (h0 : 0 ≤ k) (h1 : k ≤ 255) (h0' : 0 ≤ k') (h1' : k' ≤ 255) (hk : k % 7 = 2) (hk' : k' % 7 = 2) :
    Calls Try.prog 12 #[.int .u8 k, .int .u8 k', .float .f64 x, .float .f64 x', .bool b, .bool b', .slice a n c, .slice a' n' c', .int .u32 r, .int .u32 r'] w (BPostQ (b == b') w) := by
  go_enter Try.func12, Try.ntmps12
  go_wp2_with fail
  go_ret
  exact ⟨rfl, ⟨0, rfl⟩⟩

set_option maxRecDepth 100000 in
set_option maxHeartbeats 1000000 in
theorem le3 (k k' : Int) (x x' : Nat) (b b' : Bool) (a a' : Option Addr) (n c n' c' : Nat) (r r' : Int) (w : World) (h0 : 0 ≤ k) (h1 : k ≤ 255) (h0' : 0 ≤ k') (h1' : k' ≤ 255) (hk : k % 7 = 3) (hk' : k' % 7 = 3) :
    Calls Try.prog 12 #[.int .u8 k, .int .u8 k', .float .f64 x, .float .f64 x', .bool b, .bool b', .slice a n c, .slice a' n' c', .int .u32 r, .int .u32 r'] w (BPostQ (FloatKind.f64.format.order x x' == some .eq) w) := by
  go_enter Try.func12, Try.ntmps12
  go_wp2_with fail
  go_ret
  exact ⟨rfl, ⟨0, rfl⟩⟩

set_option maxRecDepth 100000 in
set_option maxHeartbeats 1000000 in
theorem le4 (k k' : Int) (x x' : Nat) (b b' : Bool) (a a' : Option Addr) (n c n' c' : Nat) (r r' : Int) (zs zs' : List Int) (w : World) (h0 : 0 ≤ k) (h1 : k ≤ 255) (h0' : 0 ≤ k') (h1' : k' ≤ 255) (hk : k % 7 = 4) (hk' : k' % 7 = 4) (r1 : RowV w a n (fun i => .int .u16 (uAt zs i))) (r2 : RowV w a' n' (fun i => .int .u16 (uAt zs' i))) (b1 : n ≤ 1048576) (b2 : n' ≤ 1048576) :
    Calls Try.prog 12 #[.int .u8 k, .int .u8 k', .float .f64 x, .float .f64 x', .bool b, .bool b', .slice a n c, .slice a' n' c', .int .u32 r, .int .u32 r'] w (BPostQ (ueq n n' zs zs') w) := by
  have HC := Lib.hid (u31 a a' n n' c c' zs zs' w r1 r2 b1 b2)
  clear r1 r2
  obtain ⟨g, hg⟩ : ∃ g, g = ueq n n' zs zs' := ⟨_, rfl⟩
  rw [← hg] at HC ⊢
  clear hg
  go_enter Try.func12, Try.ntmps12
  go_wp2_with fail
  refine HC.out.mono ?_
  rintro e w1 ⟨rfl, q, rfl⟩
  go_wp2_with fail
  go_ret
  exact ⟨rfl, ⟨q, rfl⟩⟩

set_option maxRecDepth 100000 in
set_option maxHeartbeats 1000000 in
theorem le5 (k k' : Int) (x x' : Nat) (b b' : Bool) (a a' : Option Addr) (n c n' c' : Nat) (r r' : Int) (w : World) (h0 : 0 ≤ k) (h1 : k ≤ 255) (h0' : 0 ≤ k') (h1' : k' ≤ 255) (hk : k % 7 = 5) (hk' : k' % 7 = 5) :
    Calls Try.prog 12 #[.int .u8 k, .int .u8 k', .float .f64 x, .float .f64 x', .bool b, .bool b', .slice a n c, .slice a' n' c', .int .u32 r, .int .u32 r'] w (BPostQ (r == r') w) := by
  go_enter Try.func12, Try.ntmps12
  go_wp2_with fail
  go_ret
  exact ⟨rfl, ⟨0, rfl⟩⟩

set_option maxRecDepth 100000 in
set_option maxHeartbeats 1000000 in
theorem le6 (k k' : Int) (x x' : Nat) (b b' : Bool) (a a' : Option Addr) (n c n' c' : Nat) (r r' : Int) (w : World) (h0 : 0 ≤ k) (h1 : k ≤ 255) (h0' : 0 ≤ k') (h1' : k' ≤ 255) (hk : k % 7 = 6) (hk' : k' % 7 = 6) :
    Calls Try.prog 12 #[.int .u8 k, .int .u8 k', .float .f64 x, .float .f64 x', .bool b, .bool b', .slice a n c, .slice a' n' c', .int .u32 r, .int .u32 r'] w (BPostQ (false) w) := by
  go_enter Try.func12, Try.ntmps12
  go_wp2_with fail
  go_ret
  exact ⟨rfl, ⟨0, rfl⟩⟩

theorem le_any (k k' : Int) (x x' : Nat) (b b' : Bool) (a a' : Option Addr) (n c n' c' : Nat) (r r' : Int) (zs zs' : List Int) (w : World) (h0 : 0 ≤ k) (h1 : k ≤ 255) (h0' : 0 ≤ k') (h1' : k' ≤ 255) (r1 : RowV w a n (fun i => .int .u16 (uAt zs i))) (r2 : RowV w a' n' (fun i => .int .u16 (uAt zs' i))) (b1 : n ≤ 1048576) (b2 : n' ≤ 1048576) :
    Calls Try.prog 12 #[.int .u8 k, .int .u8 k', .float .f64 x, .float .f64 x', .bool b, .bool b', .slice a n c, .slice a' n' c', .int .u32 r, .int .u32 r'] w (BPostQ (leq (k % 7).toNat x b n zs r (k' % 7).toNat x' b' n' zs' r') w) := by
  by_cases e : k % 7 = k' % 7
  · have hk : k % 7 = 0 ∨ k % 7 = 1 ∨ k % 7 = 2 ∨ k % 7 = 3 ∨ k % 7 = 4 ∨ k % 7 = 5 ∨ k % 7 = 6 := by omega
    rcases hk with hk | hk | hk | hk | hk | hk | hk
    · rw [show (k % 7).toNat = 0 by omega, show (k' % 7).toNat = 0 by omega]; exact le0 k k' x x' b b' a a' n c n' c' r r' w h0 h1 h0' h1' hk (by omega)
    · rw [show (k % 7).toNat = 1 by omega, show (k' % 7).toNat = 1 by omega]; exact le1 k k' x x' b b' a a' n c n' c' r r' w h0 h1 h0' h1' hk (by omega)
    · rw [show (k % 7).toNat = 2 by omega, show (k' % 7).toNat = 2 by omega]; exact le2 k k' x x' b b' a a' n c n' c' r r' w h0 h1 h0' h1' hk (by omega)
    · rw [show (k % 7).toNat = 3 by omega, show (k' % 7).toNat = 3 by omega]; exact le3 k k' x x' b b' a a' n c n' c' r r' w h0 h1 h0' h1' hk (by omega)
    · rw [show (k % 7).toNat = 4 by omega, show (k' % 7).toNat = 4 by omega]; exact le4 k k' x x' b b' a a' n c n' c' r r' zs zs' w h0 h1 h0' h1' hk (by omega) r1 r2 b1 b2
    · rw [show (k % 7).toNat = 5 by omega, show (k' % 7).toNat = 5 by omega]; exact le5 k k' x x' b b' a a' n c n' c' r r' w h0 h1 h0' h1' hk (by omega)
    · rw [show (k % 7).toNat = 6 by omega, show (k' % 7).toNat = 6 by omega]; exact le6 k k' x x' b b' a a' n c n' c' r r' w h0 h1 h0' h1' hk (by omega)
  · rw [show leq (k % 7).toNat x b n zs r (k' % 7).toNat x' b' n' zs' r' = false by unfold leq; rw [if_neg (by omega)]]
    exact le_ne k k' x x' b b' a a' n c n' c' r r' w h0 h1 h0' h1' (by simpa using e) (by simpa using e)

theorem lty_ne (k : Nat) : ¬ lty k = 65 := by
  unfold lty
  repeat' split
  all_goals omega
theorem lty_other {k k' : Nat} (h : k ≤ 6) (h' : k' ≤ 6) (hne : ¬ k = k') : ¬ lty k' = lty k := by
  unfold lty
  repeat' split
  all_goals omega
theorem dce_leaf (k x : Nat) (b : Bool) (a : Option Addr) (n c : Nat) (zs : List Int) (r : Int) (k' x' : Nat) (b' : Bool) (a' : Option Addr) (n' c' : Nat) (zs' : List Int) (r' : Int) (p q : Nat) (l l' : Int) (w : World)
    (hk : k ≤ 6) (hk' : k' ≤ 6) (h1 : LAt w p k x b a n c r) (h2 : LAt w q k' x' b' a' n' c' r') (r1 : RowV w a n (fun i => .int .u16 (uAt zs i))) (r2 : RowV w a' n' (fun i => .int .u16 (uAt zs' i))) (b1 : n ≤ 1048576) (b2 : n' ≤ 1048576) :
    Calls Try.prog 30 #[.agg #[.iface (lty k) (.pointer (some ⟨p, 0, none⟩)), .int .i32 l], .agg #[.iface (lty k') (.pointer (some ⟨q, 0, none⟩)), .int .i32 l']] w (DP (leq k x b n zs r k' x' b' n' zs' r') false w) := by
  by_cases e : k = k'
  · subst e
    have hh : k = 0 ∨ k = 1 ∨ k = 2 ∨ k = 3 ∨ k = 4 ∨ k = 5 ∨ k = 6 := by omega
    rcases hh with rfl | rfl | rfl | rfl | rfl | rfl | rfl
    · exact same0 p q l l' w
    · exact same1 p q l l' w
    · exact same2 p q b b' l l' w (h1.1 rfl) (h2.1 rfl)
    · exact same3 p q x x' l l' w (h1.2.1 rfl) (h2.2.1 rfl)
    · exact same4 p q a a' n n' c c' zs zs' l l' w (h1.2.2.1 rfl) (h2.2.2.1 rfl) r1 r2 b1 b2
    · exact same5 p q r r' l l' w (h1.2.2.2 rfl).1 (h1.2.2.2 rfl).2 (h2.2.2.2 rfl).1 (h2.2.2.2 rfl).2
    · exact arr p q _ l l' w (lty_ne 6)
  · rw [show leq k x b n zs r k' x' b' n' zs' r' = false by unfold leq; rw [if_neg e]]
    have ho := lty_other hk hk' e
    have hh : k = 0 ∨ k = 1 ∨ k = 2 ∨ k = 3 ∨ k = 4 ∨ k = 5 ∨ k = 6 := by omega
    rcases hh with rfl | rfl | rfl | rfl | rfl | rfl | rfl
    · exact oth0 p q _ l l' w (lty_ne k') ho
    · exact oth1 p q _ l l' w (lty_ne k') ho
    · exact oth2 p q _ l l' w (lty_ne k') ho
    · exact oth3 p q _ l l' w (lty_ne k') ho
    · exact oth4 p q _ l l' w (lty_ne k') ho
    · exact oth5 p q _ l l' w (lty_ne k') ho
    · exact arr p q _ l l' w (lty_ne k')
end Go.Proofs.Ytgghakmfcodojaa
