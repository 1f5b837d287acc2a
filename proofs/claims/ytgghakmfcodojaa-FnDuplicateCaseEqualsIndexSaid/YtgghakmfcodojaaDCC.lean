/- Proved here: contracts of duplicateCaseEquals on inlined enums, dot and index nodes, of the makers of nodes and of the model's comparison. Conditions as stated. -/
import Derived.Test.YtgghakmfcodojaaDCB
import Derived.WalkKit
import Derived.WalkSpells
import Derived.WalkLawsBesides
import Derived.Lib.Hide
import Derived.Lib.SliceRun
import Derived.Deep.RegionWith
import Derived.Deep.QuietTactic
import Derived.BigQuiet
namespace Go.Proofs.Ytgghakmfcodojaa
open Go.RowKit
set_option linter.unusedSimpArgs false
set_option linter.unusedVariables false

set_option maxRecDepth 100000 in
set_option maxHeartbeats 1000000 in
theorem enumR (t x p q s : Nat) (n m l : Int) (b1 b2 : Bool) (w : World) (h0 : w.cell? ⟨q, 0, none⟩ = some (.iface s (.pointer (some ⟨p, 0, none⟩)))) (h1 : w.cell? ⟨q, 1, none⟩ = some (.int .i32 l)) (C : ∀ W, Below w.heap.size w W → Calls Try.prog 30 #[.agg #[.iface t (.pointer (some ⟨x, 0, none⟩)), .int .i32 n], .agg #[.iface s (.pointer (some ⟨p, 0, none⟩)), .int .i32 l]] W (DP b1 b2 W)) :
    Calls Try.prog 30 #[.agg #[.iface t (.pointer (some ⟨x, 0, none⟩)), .int .i32 n], .agg #[.iface 65 (.pointer (some ⟨q, 0, none⟩)), .int .i32 m]] w (DP b1 b2 w) := by
  have HC := Lib.hid C
  clear C
  have lq : q < w.heap.size := World.block_lt_of_cell? _ _ h0
  have lq1 : q < w.heap.size + 1 := by omega
  have lq2 : q < w.heap.size + 1 + 1 := by omega
  go_enter Try.func30, Try.ntmps30
  go_wp2_with fail
  go_region_with (go_at_call 30; refine (HC.out _ (by repeat (first | with_reducible exact Below.refl _ _ | (with_reducible refine Below.drew ?_) | (with_reducible refine below_drewN ?_ _) | (with_reducible refine Below.alloc ?_ (by simp; try omega) _)))).mono ?_; rintro e w1 ⟨rfl, hb⟩)
  all_goals
    go_wp2_with fail
    go_ret2
    exact ⟨rfl, Below.trans (by repeat (first | with_reducible exact Below.refl _ _ | (with_reducible refine Below.drew ?_) | (with_reducible refine below_drewN ?_ _) | (with_reducible refine Below.alloc ?_ (by simp; try omega) _))) (Below.mono hb (by simp; try omega))⟩

set_option maxRecDepth 100000 in
set_option maxHeartbeats 1000000 in
theorem enumL (t x p q s : Nat) (n m l : Int) (b1 b2 : Bool) (w : World) (ht : ¬ t = 65) (h0 : w.cell? ⟨q, 0, none⟩ = some (.iface s (.pointer (some ⟨p, 0, none⟩)))) (h1 : w.cell? ⟨q, 1, none⟩ = some (.int .i32 l)) (C : ∀ W, Below w.heap.size w W → Calls Try.prog 30 #[.agg #[.iface s (.pointer (some ⟨p, 0, none⟩)), .int .i32 l], .agg #[.iface t (.pointer (some ⟨x, 0, none⟩)), .int .i32 n]] W (DP b1 b2 W)) :
    Calls Try.prog 30 #[.agg #[.iface 65 (.pointer (some ⟨q, 0, none⟩)), .int .i32 m], .agg #[.iface t (.pointer (some ⟨x, 0, none⟩)), .int .i32 n]] w (DP b1 b2 w) := by
  have HC := Lib.hid C
  clear C
  have lq : q < w.heap.size := World.block_lt_of_cell? _ _ h0
  have lq1 : q < w.heap.size + 1 := by omega
  have lq2 : q < w.heap.size + 1 + 1 := by omega
  go_enter Try.func30, Try.ntmps30
  go_wp2_with fail
  go_region_with (go_at_call 30; refine (HC.out _ (by repeat (first | with_reducible exact Below.refl _ _ | (with_reducible refine Below.drew ?_) | (with_reducible refine below_drewN ?_ _) | (with_reducible refine Below.alloc ?_ (by simp; try omega) _)))).mono ?_; rintro e w1 ⟨rfl, hb⟩)
  all_goals
    go_wp2_with fail
    go_ret2
    exact ⟨rfl, Below.trans (by repeat (first | with_reducible exact Below.refl _ _ | (with_reducible refine Below.drew ?_) | (with_reducible refine below_drewN ?_ _) | (with_reducible refine Below.alloc ?_ (by simp; try omega) _))) (Below.mono hb (by simp; try omega))⟩

set_option maxRecDepth 100000 in
set_option maxHeartbeats 1000000 in
theorem dotT (p q t x t' x' : Nat) (n m l l' : Int) (s s' : ByteArray) (b1 b2 : Bool) (w : World) (h0 : w.cell? ⟨p, 0, none⟩ = some (.iface t (.pointer (some ⟨x, 0, none⟩)))) (h1 : w.cell? ⟨p, 1, none⟩ = some (.int .i32 l)) (h2 : w.cell? ⟨p, 2, none⟩ = some (.string s)) (h3 : w.cell? ⟨p, 4, none⟩ = some (.int .u8 0)) (g0 : w.cell? ⟨q, 0, none⟩ = some (.iface t' (.pointer (some ⟨x', 0, none⟩)))) (g1 : w.cell? ⟨q, 1, none⟩ = some (.int .i32 l')) (g2 : w.cell? ⟨q, 2, none⟩ = some (.string s')) (g3 : w.cell? ⟨q, 4, none⟩ = some (.int .u8 0)) (e : (s.toList == s'.toList) = true) (C : ∀ W, Below w.heap.size w W → Calls Try.prog 30 #[.agg #[.iface t (.pointer (some ⟨x, 0, none⟩)), .int .i32 l], .agg #[.iface t' (.pointer (some ⟨x', 0, none⟩)), .int .i32 l']] W (DP b1 b2 W)) :
    Calls Try.prog 30 #[.agg #[.iface 50 (.pointer (some ⟨p, 0, none⟩)), .int .i32 n], .agg #[.iface 50 (.pointer (some ⟨q, 0, none⟩)), .int .i32 m]] w (DP b1 true w) := by
  have HC := Lib.hid C
  clear C
  have lp : p < w.heap.size := World.block_lt_of_cell? _ _ h0
  have lp1 : p < w.heap.size + 1 := by omega
  have lp2 : p < w.heap.size + 1 + 1 := by omega
  have lq : q < w.heap.size := World.block_lt_of_cell? _ _ g0
  have lq1 : q < w.heap.size + 1 := by omega
  have lq2 : q < w.heap.size + 1 + 1 := by omega
  go_enter Try.func30, Try.ntmps30
  go_wp2_with fail
  go_quiet (fail)
  go_wp2_with fail
  go_region_with (go_at_call 30; refine (HC.out _ ((by repeat (first | with_reducible exact Below.refl _ _ | (with_reducible refine Below.drew ?_) | (with_reducible refine below_drewN ?_ _) | (with_reducible refine Below.alloc ?_ (by simp; try omega) _))))).mono ?_; rintro e w1 ⟨rfl, hb⟩)
  all_goals
    go_wp2_with fail
    go_ret2
    exact ⟨rfl, Below.trans (by repeat (first | with_reducible exact Below.refl _ _ | (with_reducible refine Below.drew ?_) | (with_reducible refine below_drewN ?_ _) | (with_reducible refine Below.alloc ?_ (by simp; try omega) _))) (Below.mono hb (by simp; try omega))⟩

set_option maxRecDepth 100000 in
set_option maxHeartbeats 1000000 in
theorem dotF (p q t x t' x' : Nat) (n m l l' : Int) (s s' : ByteArray) (w : World) (h0 : w.cell? ⟨p, 0, none⟩ = some (.iface t (.pointer (some ⟨x, 0, none⟩)))) (h1 : w.cell? ⟨p, 1, none⟩ = some (.int .i32 l)) (h2 : w.cell? ⟨p, 2, none⟩ = some (.string s)) (h3 : w.cell? ⟨p, 4, none⟩ = some (.int .u8 0)) (g0 : w.cell? ⟨q, 0, none⟩ = some (.iface t' (.pointer (some ⟨x', 0, none⟩)))) (g1 : w.cell? ⟨q, 1, none⟩ = some (.int .i32 l')) (g2 : w.cell? ⟨q, 2, none⟩ = some (.string s')) (g3 : w.cell? ⟨q, 4, none⟩ = some (.int .u8 0)) (e : (s.toList == s'.toList) = false) :
    Calls Try.prog 30 #[.agg #[.iface 50 (.pointer (some ⟨p, 0, none⟩)), .int .i32 n], .agg #[.iface 50 (.pointer (some ⟨q, 0, none⟩)), .int .i32 m]] w (DP false false w) := by
  have lp : p < w.heap.size := World.block_lt_of_cell? _ _ h0
  have lp1 : p < w.heap.size + 1 := by omega
  have lp2 : p < w.heap.size + 1 + 1 := by omega
  have lq : q < w.heap.size := World.block_lt_of_cell? _ _ g0
  have lq1 : q < w.heap.size + 1 := by omega
  have lq2 : q < w.heap.size + 1 + 1 := by omega
  go_enter Try.func30, Try.ntmps30
  go_wp2_with fail
  go_quiet (fail)
  go_wp2_with fail
  go_ret2
  exact ⟨rfl, (by repeat (first | with_reducible exact Below.refl _ _ | (with_reducible refine Below.drew ?_) | (with_reducible refine below_drewN ?_ _) | (with_reducible refine Below.alloc ?_ (by simp; try omega) _)))⟩

set_option maxRecDepth 100000 in
set_option maxHeartbeats 1000000 in
theorem idxF (p q t x u y t' x' u' y' : Nat) (n m l k l' k' : Int) (b2 : Bool) (w : World) (h0 : w.cell? ⟨p, 0, none⟩ = some (.iface t (.pointer (some ⟨x, 0, none⟩)))) (h1 : w.cell? ⟨p, 1, none⟩ = some (.int .i32 l)) (h2 : w.cell? ⟨p, 2, none⟩ = some (.iface u (.pointer (some ⟨y, 0, none⟩)))) (h3 : w.cell? ⟨p, 3, none⟩ = some (.int .i32 k)) (h4 : w.cell? ⟨p, 5, none⟩ = some (.int .u8 0)) (g0 : w.cell? ⟨q, 0, none⟩ = some (.iface t' (.pointer (some ⟨x', 0, none⟩)))) (g1 : w.cell? ⟨q, 1, none⟩ = some (.int .i32 l')) (g2 : w.cell? ⟨q, 2, none⟩ = some (.iface u' (.pointer (some ⟨y', 0, none⟩)))) (g3 : w.cell? ⟨q, 3, none⟩ = some (.int .i32 k')) (g4 : w.cell? ⟨q, 5, none⟩ = some (.int .u8 0)) (C : ∀ W, Below w.heap.size w W → Calls Try.prog 30 #[.agg #[.iface u (.pointer (some ⟨y, 0, none⟩)), .int .i32 k], .agg #[.iface u' (.pointer (some ⟨y', 0, none⟩)), .int .i32 k']] W (DP false b2 W)) :
    Calls Try.prog 30 #[.agg #[.iface 60 (.pointer (some ⟨p, 0, none⟩)), .int .i32 n], .agg #[.iface 60 (.pointer (some ⟨q, 0, none⟩)), .int .i32 m]] w (DP false false w) := by
  have HC := Lib.hid C
  clear C
  have lp : p < w.heap.size := World.block_lt_of_cell? _ _ h0
  have lp1 : p < w.heap.size + 1 := by omega
  have lp2 : p < w.heap.size + 1 + 1 := by omega
  have lq : q < w.heap.size := World.block_lt_of_cell? _ _ g0
  have lq1 : q < w.heap.size + 1 := by omega
  have lq2 : q < w.heap.size + 1 + 1 := by omega
  go_enter Try.func30, Try.ntmps30
  go_wp2_with fail
  go_quiet (fail)
  go_wp2_with fail
  go_region_with (go_at_call 30; refine (HC.out _ (by repeat (first | with_reducible exact Below.refl _ _ | (with_reducible refine Below.drew ?_) | (with_reducible refine below_drewN ?_ _) | (with_reducible refine Below.alloc ?_ (by simp; try omega) _)))).mono ?_; rintro e w1 ⟨rfl, hb⟩)
  all_goals
    go_wp2_with fail
    go_ret2
    exact ⟨rfl, Below.trans (by repeat (first | with_reducible exact Below.refl _ _ | (with_reducible refine Below.drew ?_) | (with_reducible refine below_drewN ?_ _) | (with_reducible refine Below.alloc ?_ (by simp; try omega) _))) (Below.mono hb (by simp; try omega))⟩

set_option maxRecDepth 100000 in
set_option maxHeartbeats 4000000 in
theorem idxT (p q t x u y t' x' u' y' : Nat) (n m l k l' k' : Int) (b2 b1 b3 : Bool) (w : World) (h0 : w.cell? ⟨p, 0, none⟩ = some (.iface t (.pointer (some ⟨x, 0, none⟩)))) (h1 : w.cell? ⟨p, 1, none⟩ = some (.int .i32 l)) (h2 : w.cell? ⟨p, 2, none⟩ = some (.iface u (.pointer (some ⟨y, 0, none⟩)))) (h3 : w.cell? ⟨p, 3, none⟩ = some (.int .i32 k)) (h4 : w.cell? ⟨p, 5, none⟩ = some (.int .u8 0)) (g0 : w.cell? ⟨q, 0, none⟩ = some (.iface t' (.pointer (some ⟨x', 0, none⟩)))) (g1 : w.cell? ⟨q, 1, none⟩ = some (.int .i32 l')) (g2 : w.cell? ⟨q, 2, none⟩ = some (.iface u' (.pointer (some ⟨y', 0, none⟩)))) (g3 : w.cell? ⟨q, 3, none⟩ = some (.int .i32 k')) (g4 : w.cell? ⟨q, 5, none⟩ = some (.int .u8 0)) (C : ∀ W, Below w.heap.size w W → Calls Try.prog 30 #[.agg #[.iface u (.pointer (some ⟨y, 0, none⟩)), .int .i32 k], .agg #[.iface u' (.pointer (some ⟨y', 0, none⟩)), .int .i32 k']] W (DP true b2 W)) (D : ∀ W, Below w.heap.size w W → Calls Try.prog 30 #[.agg #[.iface t (.pointer (some ⟨x, 0, none⟩)), .int .i32 l], .agg #[.iface t' (.pointer (some ⟨x', 0, none⟩)), .int .i32 l']] W (DP b1 b3 W)) :
    Calls Try.prog 30 #[.agg #[.iface 60 (.pointer (some ⟨p, 0, none⟩)), .int .i32 n], .agg #[.iface 60 (.pointer (some ⟨q, 0, none⟩)), .int .i32 m]] w (DP b1 true w) := by
  have HC := Lib.hid C
  have HD := Lib.hid D
  clear C D
  have lp : p < w.heap.size := World.block_lt_of_cell? _ _ h0
  have lp1 : p < w.heap.size + 1 := by omega
  have lp2 : p < w.heap.size + 1 + 1 := by omega
  have lq : q < w.heap.size := World.block_lt_of_cell? _ _ g0
  have lq1 : q < w.heap.size + 1 := by omega
  have lq2 : q < w.heap.size + 1 + 1 := by omega
  go_enter Try.func30, Try.ntmps30
  go_wp2_with fail
  go_quiet (fail)
  go_wp2_with fail
  go_region_with (go_at_call 30; refine (HC.out _ (by repeat (first | with_reducible exact Below.refl _ _ | (with_reducible refine Below.drew ?_) | (with_reducible refine below_drewN ?_ _) | (with_reducible refine Below.alloc ?_ (by simp; try omega) _)))).mono ?_; rintro e w1 ⟨rfl, hb⟩; have HB : Below w.heap.size w w1 := Below.trans (by repeat (first | with_reducible exact Below.refl _ _ | (with_reducible refine Below.drew ?_) | (with_reducible refine below_drewN ?_ _) | (with_reducible refine Below.alloc ?_ (by simp; try omega) _))) (Below.mono hb (by simp; try omega)))
  all_goals
    have e0 := kept HB h0
    have e1 := kept HB h1
    have f0 := kept HB g0
    have f1 := kept HB g1
    have lp' := World.block_lt_of_cell? _ _ e0
    have lq' := World.block_lt_of_cell? _ _ f0
    clear hb
    go_wp2_with fail
    go_region_with (go_at_call 30; refine (HD.out _ (by repeat (first | with_reducible exact HB | (with_reducible refine Below.drew ?_) | (with_reducible refine below_drewN ?_ _)))).mono ?_; rintro e w2 ⟨rfl, hb2⟩)
    all_goals
      go_wp2_with fail
      go_ret2
      exact ⟨rfl, bel2 (by repeat (first | with_reducible exact HB | (with_reducible refine Below.drew ?_) | (with_reducible refine below_drewN ?_ _))) hb2⟩
end Go.Proofs.Ytgghakmfcodojaa
