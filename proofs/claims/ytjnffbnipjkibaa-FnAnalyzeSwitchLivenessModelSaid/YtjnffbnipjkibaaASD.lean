/- Proved here: what CheckEqualityIfNoSideEffects answers at numbers and identifiers. Conditions: the cells, as stated. -/
import Derived.Test.YtjnffbnipjkibaaASB
import Derived.Test.YtjnffbnipjkibaaASC
import Derived.WalkKit
import Derived.WalkSpells
import Derived.WalkLawsBesides
import Derived.Lib.Hide
import Derived.Lib.SliceRun
import Derived.Deep.RegionWith
import Derived.OwnWalk
import Derived.Laws.OwnMore
import Derived.BigQuiet
import Derived.Deep.QuietTactic
namespace Go.Proofs.Ytjnffbnipjkibaa
open Go.RowKit
set_option linter.unusedSimpArgs false
set_option linter.unusedVariables false

set_option maxRecDepth 100000 in
set_option maxHeartbeats 1000000 in
theorem primI (b : Nat) (w : World) : Calls Try.prog 55 #[.iface 95 (.pointer (some ⟨b, 0, none⟩))] w (fun e w' => e = .returned (.bool false) ∧ Below w.heap.size w w') := by
  go_enter Try.func55, Try.ntmps55
  go_wp2_with fail
  go_ret
  exact ⟨rfl, (by repeat (first | with_reducible exact Below.refl _ _ | (with_reducible refine Below.alloc ?_ (by simp; try omega) _) | (with_reducible refine Below.setCell ?_ (by simp; try omega) _)))⟩
set_option maxRecDepth 100000 in
set_option maxHeartbeats 4000000 in
theorem ceqNN (b1 b2 : Nat) (x y : Int) (w : World) (hx : -128 ≤ x ∧ x ≤ 127) (hy : -128 ≤ y ∧ y ≤ 127) (h1 : w.cell? ⟨b1, 0, none⟩ = some (.float .f64 (floatOfInt .f64 x))) (h2 : w.cell? ⟨b2, 0, none⟩ = some (.float .f64 (floatOfInt .f64 y))) : Calls Try.prog 52 #[.iface 101 (.pointer (some ⟨b1, 0, none⟩)), .iface 101 (.pointer (some ⟨b2, 0, none⟩)), .int .u8 1] w (fun e w' => e = .returned (.tuple #[.bool (decide (x = y)), .bool true]) ∧ Below w.heap.size w w') := by
  have HF := Lib.hid (feq x y hx hy)
  have l1 : b1 < w.heap.size := World.block_lt_of_cell? _ _ h1
  have l2 : b2 < w.heap.size := World.block_lt_of_cell? _ _ h2
  go_enter Try.func52, Try.ntmps52
  go_wp2_with fail
  go_quiet (fail)
  go_wp2_with fail
  exact bodyPost_ret (v := .tuple #[.bool (FloatKind.f64.format.order (floatOfInt .f64 x) (floatOfInt .f64 y) == some .eq), .bool true]) (by simp [results, Try.results52, go_sem]) rfl ⟨by rw [HF.out], below_drewN (Below.refl _ _) _⟩
set_option maxRecDepth 100000 in
set_option maxHeartbeats 4000000 in
theorem ceqNI (b1 b2 : Nat) (w : World) : Calls Try.prog 52 #[.iface 101 (.pointer (some ⟨b1, 0, none⟩)), .iface 95 (.pointer (some ⟨b2, 0, none⟩)), .int .u8 1] w (fun e w' => e = .returned (.tuple #[.bool false, .bool false]) ∧ Below w.heap.size w w') := by
  have H := Lib.hid (primI b2)
  go_enter Try.func52, Try.ntmps52
  go_wp2_with fail
  refine (H.out _).mono ?_
  rintro e w1 ⟨rfl, hb⟩
  have HB := Lib.hid hb
  clear hb
  go_wp2_with fail
  exact bodyPost_ret (v := .tuple #[.bool false, .bool false]) (by simp [results, Try.results52, go_sem]) rfl ⟨rfl, HB.out⟩
set_option maxRecDepth 100000 in
set_option maxHeartbeats 4000000 in
theorem ceqI (t b1 b2 : Nat) (w : World) (ht : t = 101 ∨ t = 95) : Calls Try.prog 52 #[.iface 95 (.pointer (some ⟨b1, 0, none⟩)), .iface t (.pointer (some ⟨b2, 0, none⟩)), .int .u8 1] w (fun e w' => e = .returned (.tuple #[.bool false, .bool false]) ∧ Below w.heap.size w w') := by
  rcases ht with rfl | rfl
  all_goals
    go_enter Try.func52, Try.ntmps52
    go_wp2_with fail
    exact bodyPost_ret (v := .tuple #[.bool false, .bool false]) (by simp [results, Try.results52, go_sem]) rfl ⟨rfl, (by repeat (first | with_reducible exact Below.refl _ _ | (with_reducible refine Below.alloc ?_ (by simp; try omega) _) | (with_reducible refine Below.setCell ?_ (by simp; try omega) _)))⟩
end Go.Proofs.Ytjnffbnipjkibaa
