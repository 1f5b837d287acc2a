/- Proved here: contracts of mkLeaf, MaybeSimplifyNot and Not at the kinds of leaf that the law builds. Conditions: the kind, the node's first cell. -/
import Derived.Test.YtonhekaakddneaaRRRNM
import Derived.WalkKit
import Derived.WalkSpells
import Derived.WalkLawsBesides
import Derived.Lib.Hide
import Derived.Lib.SliceRun
import Derived.Deep.RegionWith
namespace Go.Proofs.YtonhekaakddneaaRRR.fnNotLeafTable
open Go.RowKit
set_option linter.unusedSimpArgs false
set_option linter.unusedVariables false

set_option maxRecDepth 100000 in
theorem isnan (x : Nat) (w : World) : Calls Try.prog 35 #[.float .f64 x] w fun e w' => e = .returned (.bool (FloatKind.f64.format.order x x != some .eq)) ∧ w = w' := by
  go_enter Try.func35, Try.ntmps35
  go_wp2_with fail
  go_ret
  exact ⟨rfl, rfl⟩
set_option maxRecDepth 100000 in
theorem ceq_same (big : ByteArray) (w : World) : Calls Try.prog 36 #[.string big, .string big] w fun e w' => e = .returned (.tuple #[.bool true, .bool true]) ∧ w = w' := by
  go_enter Try.func36, Try.ntmps36
  go_wp2_with fail
  go_ret2
  exact ⟨rfl, rfl⟩
set_option maxRecDepth 100000 in
theorem ceq_short (big : ByteArray) (w : World) (hne : (big.toList == [48]) = false) (hs : big.size < 2) : Calls Try.prog 36 #[.string big, .string ⟨#[48]⟩] w fun e w' => e = .returned (.tuple #[.bool false, .bool true]) ∧ w = w' := by
  go_enter Try.func36, Try.ntmps36
  go_wp2_with fail
  go_ret2
  exact ⟨rfl, rfl⟩
set_option maxRecDepth 100000 in
theorem ceq_dec (big : ByteArray) (w : World) (hne : (big.toList == [48]) = false) (hs : 2 ≤ big.size) (hm : big.size ≤ 1048576) (h0 : ((big[0].toNat : Int) != 48) = true) : Calls Try.prog 36 #[.string big, .string ⟨#[48]⟩] w fun e w' => e = .returned (.tuple #[.bool false, .bool true]) ∧ w = w' := by
  have h2 : decide ((big.size : Int) < 2) = false := by simp; omega
  go_enter Try.func36, Try.ntmps36
  go_wp2_with fail
  go_ret2
  exact ⟨rfl, rfl⟩
set_option maxRecDepth 100000 in
theorem ceq_unk (big : ByteArray) (w : World) (hne : (big.toList == [48]) = false) (hs : 2 ≤ big.size) (hm : big.size ≤ 1048576) (h0 : ((big[0].toNat : Int) != 48) = false) : Calls Try.prog 36 #[.string big, .string ⟨#[48]⟩] w fun e w' => e = .returned (.tuple #[.bool false, .bool false]) ∧ w = w' := by
  have h2 : decide ((big.size : Int) < 2) = false := by simp; omega
  go_enter Try.func36, Try.ntmps36
  go_wp2_with fail
  go_ret2
  exact ⟨rfl, rfl⟩

set_option maxRecDepth 100000 in
set_option maxHeartbeats 1000000 in
theorem msn0 (p : Nat) (n : Int) (w : World) :
    Calls Try.prog 23 #[.agg #[.iface 82 (.pointer (some ⟨p, 0, none⟩)), .int .i32 n]] w (IsB2 (true) n w) := by
  go_enter Try.func23, Try.ntmps23
  go_wp2_with fail
  all_goals exact bodyPost_ret (v := .tuple #[.agg #[.iface 53 (.pointer (some ⟨w.heap.size + 2, 0, none⟩)), .int .i32 n], .bool true]) (by simp [results, Try.results23, go_sem]) rfl ⟨w.heap.size + 2, rfl, by simp [go_sem], (by repeat (first | with_reducible exact Below.refl _ _ | (with_reducible refine Below.drew ?_) | (with_reducible refine Below.alloc ?_ (by simp; try omega) _) | (with_reducible refine Below.setCell ?_ (by simp; try omega) _)))⟩

set_option maxRecDepth 100000 in
set_option maxHeartbeats 1000000 in
theorem msn1 (p : Nat) (n : Int) (w : World) :
    Calls Try.prog 23 #[.agg #[.iface 84 (.pointer (some ⟨p, 0, none⟩)), .int .i32 n]] w (IsB2 (true) n w) := by
  go_enter Try.func23, Try.ntmps23
  go_wp2_with fail
  all_goals exact bodyPost_ret (v := .tuple #[.agg #[.iface 53 (.pointer (some ⟨w.heap.size + 2, 0, none⟩)), .int .i32 n], .bool true]) (by simp [results, Try.results23, go_sem]) rfl ⟨w.heap.size + 2, rfl, by simp [go_sem], (by repeat (first | with_reducible exact Below.refl _ _ | (with_reducible refine Below.drew ?_) | (with_reducible refine Below.alloc ?_ (by simp; try omega) _) | (with_reducible refine Below.setCell ?_ (by simp; try omega) _)))⟩

set_option maxRecDepth 100000 in
set_option maxHeartbeats 1000000 in
theorem msn2 (p : Nat) (n : Int) (w : World) (b : Bool) (hc : w.cell? ⟨p, 0, none⟩ = some (.bool b)) :
    Calls Try.prog 23 #[.agg #[.iface 53 (.pointer (some ⟨p, 0, none⟩)), .int .i32 n]] w (IsB2 (!b) n w) := by
  have hlt : p < w.heap.size := World.block_lt_of_cell? _ _ hc
  have hlt1 : p < w.heap.size + 1 := by omega
  have hlt2 : p < w.heap.size + 1 + 1 := by omega
  go_enter Try.func23, Try.ntmps23
  go_wp2_with fail
  go_region
  all_goals go_wp2_with fail
  all_goals exact bodyPost_ret (v := .tuple #[.agg #[.iface 53 (.pointer (some ⟨w.heap.size + 2, 0, none⟩)), .int .i32 n], .bool true]) (by simp [results, Try.results23, go_sem]) rfl ⟨w.heap.size + 2, rfl, by simp [go_sem], (by repeat (first | with_reducible exact Below.refl _ _ | (with_reducible refine Below.drew ?_) | (with_reducible refine Below.alloc ?_ (by simp; try omega) _) | (with_reducible refine Below.setCell ?_ (by simp; try omega) _)))⟩

set_option maxRecDepth 100000 in
set_option maxHeartbeats 1000000 in
theorem msn4e (p : Nat) (n : Int) (w : World) (a : Option Addr) (cap : Nat) (hc : w.cell? ⟨p, 0, none⟩ = some (.slice a 0 cap)) :
    Calls Try.prog 23 #[.agg #[.iface 97 (.pointer (some ⟨p, 0, none⟩)), .int .i32 n]] w (IsB2 (true) n w) := by
  have hlt : p < w.heap.size := World.block_lt_of_cell? _ _ hc
  have hlt1 : p < w.heap.size + 1 := by omega
  have hlt2 : p < w.heap.size + 1 + 1 := by omega
  go_enter Try.func23, Try.ntmps23
  go_wp2_with fail
  go_region
  all_goals go_wp2_with fail
  all_goals exact bodyPost_ret (v := .tuple #[.agg #[.iface 53 (.pointer (some ⟨w.heap.size + 2, 0, none⟩)), .int .i32 n], .bool true]) (by simp [results, Try.results23, go_sem]) rfl ⟨w.heap.size + 2, rfl, by simp [go_sem], (by repeat (first | with_reducible exact Below.refl _ _ | (with_reducible refine Below.drew ?_) | (with_reducible refine Below.alloc ?_ (by simp; try omega) _) | (with_reducible refine Below.setCell ?_ (by simp; try omega) _)))⟩

set_option maxRecDepth 100000 in
set_option maxHeartbeats 1000000 in
theorem msn4n (p : Nat) (n : Int) (w : World) (a : Option Addr) (len cap : Nat) (hc : w.cell? ⟨p, 0, none⟩ = some (.slice a len cap)) (hn : ((len : Int) == 0) = false) :
    Calls Try.prog 23 #[.agg #[.iface 97 (.pointer (some ⟨p, 0, none⟩)), .int .i32 n]] w (IsB2 (false) n w) := by
  have hlt : p < w.heap.size := World.block_lt_of_cell? _ _ hc
  have hlt1 : p < w.heap.size + 1 := by omega
  have hlt2 : p < w.heap.size + 1 + 1 := by omega
  go_enter Try.func23, Try.ntmps23
  go_wp2_with fail
  go_region
  all_goals go_wp2_with fail
  all_goals exact bodyPost_ret (v := .tuple #[.agg #[.iface 53 (.pointer (some ⟨w.heap.size + 2, 0, none⟩)), .int .i32 n], .bool true]) (by simp [results, Try.results23, go_sem]) rfl ⟨w.heap.size + 2, rfl, by simp [go_sem], (by repeat (first | with_reducible exact Below.refl _ _ | (with_reducible refine Below.drew ?_) | (with_reducible refine Below.alloc ?_ (by simp; try omega) _) | (with_reducible refine Below.setCell ?_ (by simp; try omega) _)))⟩

set_option maxRecDepth 100000 in
set_option maxHeartbeats 1000000 in
theorem msn3z (p : Nat) (n : Int) (w : World) (x : Nat) (hc : w.cell? ⟨p, 0, none⟩ = some (.float .f64 x)) (hz : FloatKind.f64.format.order x 0 = some .eq) :
    Calls Try.prog 23 #[.agg #[.iface 94 (.pointer (some ⟨p, 0, none⟩)), .int .i32 n]] w (IsB2 (true) n w) := by
  have hlt : p < w.heap.size := World.block_lt_of_cell? _ _ hc
  have hlt1 : p < w.heap.size + 1 := by omega
  have hlt2 : p < w.heap.size + 1 + 1 := by omega
  go_enter Try.func23, Try.ntmps23
  go_wp2_with fail
  go_region
  all_goals go_wp2_with fail
  all_goals exact bodyPost_ret (v := .tuple #[.agg #[.iface 53 (.pointer (some ⟨w.heap.size + 2, 0, none⟩)), .int .i32 n], .bool true]) (by simp [results, Try.results23, go_sem]) rfl ⟨w.heap.size + 2, rfl, by simp [go_sem], (by repeat (first | with_reducible exact Below.refl _ _ | (with_reducible refine Below.drew ?_) | (with_reducible refine Below.alloc ?_ (by simp; try omega) _) | (with_reducible refine Below.setCell ?_ (by simp; try omega) _)))⟩

set_option maxRecDepth 100000 in
set_option maxHeartbeats 1000000 in
theorem msn3l (p : Nat) (n : Int) (w : World) (x : Nat) (hc : w.cell? ⟨p, 0, none⟩ = some (.float .f64 x)) (hz : FloatKind.f64.format.order x 0 = some .lt) (hn : FloatKind.f64.format.order x x = some .eq) :
    Calls Try.prog 23 #[.agg #[.iface 94 (.pointer (some ⟨p, 0, none⟩)), .int .i32 n]] w (IsB2 (false) n w) := by
  have hlt : p < w.heap.size := World.block_lt_of_cell? _ _ hc
  have hlt1 : p < w.heap.size + 1 := by omega
  have hlt2 : p < w.heap.size + 1 + 1 := by omega
  go_enter Try.func23, Try.ntmps23
  go_wp2_with fail
  go_region_with (go_at_call 35; refine (isnan _ _).mono ?_; rintro e w' ⟨rfl, rfl⟩)
  all_goals go_wp2_with fail
  all_goals exact bodyPost_ret (v := .tuple #[.agg #[.iface 53 (.pointer (some ⟨w.heap.size + 2, 0, none⟩)), .int .i32 n], .bool true]) (by simp [results, Try.results23, go_sem]) rfl ⟨w.heap.size + 2, rfl, by simp [go_sem], (by repeat (first | with_reducible exact Below.refl _ _ | (with_reducible refine Below.drew ?_) | (with_reducible refine Below.alloc ?_ (by simp; try omega) _) | (with_reducible refine Below.setCell ?_ (by simp; try omega) _)))⟩

set_option maxRecDepth 100000 in
set_option maxHeartbeats 1000000 in
theorem msn3g (p : Nat) (n : Int) (w : World) (x : Nat) (hc : w.cell? ⟨p, 0, none⟩ = some (.float .f64 x)) (hz : FloatKind.f64.format.order x 0 = some .gt) (hn : FloatKind.f64.format.order x x = some .eq) :
    Calls Try.prog 23 #[.agg #[.iface 94 (.pointer (some ⟨p, 0, none⟩)), .int .i32 n]] w (IsB2 (false) n w) := by
  have hlt : p < w.heap.size := World.block_lt_of_cell? _ _ hc
  have hlt1 : p < w.heap.size + 1 := by omega
  have hlt2 : p < w.heap.size + 1 + 1 := by omega
  go_enter Try.func23, Try.ntmps23
  go_wp2_with fail
  go_region_with (go_at_call 35; refine (isnan _ _).mono ?_; rintro e w' ⟨rfl, rfl⟩)
  all_goals go_wp2_with fail
  all_goals exact bodyPost_ret (v := .tuple #[.agg #[.iface 53 (.pointer (some ⟨w.heap.size + 2, 0, none⟩)), .int .i32 n], .bool true]) (by simp [results, Try.results23, go_sem]) rfl ⟨w.heap.size + 2, rfl, by simp [go_sem], (by repeat (first | with_reducible exact Below.refl _ _ | (with_reducible refine Below.drew ?_) | (with_reducible refine Below.alloc ?_ (by simp; try omega) _) | (with_reducible refine Below.setCell ?_ (by simp; try omega) _)))⟩

set_option maxRecDepth 100000 in
set_option maxHeartbeats 1000000 in
theorem msn3n (p : Nat) (n : Int) (w : World) (x : Nat) (hc : w.cell? ⟨p, 0, none⟩ = some (.float .f64 x)) (hz : FloatKind.f64.format.order x 0 = none) (hn : FloatKind.f64.format.order x x = none) :
    Calls Try.prog 23 #[.agg #[.iface 94 (.pointer (some ⟨p, 0, none⟩)), .int .i32 n]] w (IsB2 (true) n w) := by
  have hlt : p < w.heap.size := World.block_lt_of_cell? _ _ hc
  have hlt1 : p < w.heap.size + 1 := by omega
  have hlt2 : p < w.heap.size + 1 + 1 := by omega
  go_enter Try.func23, Try.ntmps23
  go_wp2_with fail
  go_region_with (go_at_call 35; refine (isnan _ _).mono ?_; rintro e w' ⟨rfl, rfl⟩)
  all_goals go_wp2_with fail
  all_goals exact bodyPost_ret (v := .tuple #[.agg #[.iface 53 (.pointer (some ⟨w.heap.size + 2, 0, none⟩)), .int .i32 n], .bool true]) (by simp [results, Try.results23, go_sem]) rfl ⟨w.heap.size + 2, rfl, by simp [go_sem], (by repeat (first | with_reducible exact Below.refl _ _ | (with_reducible refine Below.drew ?_) | (with_reducible refine Below.alloc ?_ (by simp; try omega) _) | (with_reducible refine Below.setCell ?_ (by simp; try omega) _)))⟩

set_option maxRecDepth 100000 in
set_option maxHeartbeats 1000000 in
theorem msn5z (p : Nat) (n : Int) (w : World) (hc : w.cell? ⟨p, 0, none⟩ = some (.string ⟨#[48]⟩)) :
    Calls Try.prog 23 #[.agg #[.iface 44 (.pointer (some ⟨p, 0, none⟩)), .int .i32 n]] w (IsB2 (true) n w) := by
  have hlt : p < w.heap.size := World.block_lt_of_cell? _ _ hc
  have hlt1 : p < w.heap.size + 1 := by omega
  have hlt2 : p < w.heap.size + 1 + 1 := by omega
  go_enter Try.func23, Try.ntmps23
  go_wp2_with fail
  refine (ceq_same _ _).mono ?_
  rintro e w' ⟨rfl, rfl⟩
  go_wp2_with fail
  all_goals exact bodyPost_ret (v := .tuple #[.agg #[.iface 53 (.pointer (some ⟨w.heap.size + 2, 0, none⟩)), .int .i32 n], .bool true]) (by simp [results, Try.results23, go_sem]) rfl ⟨w.heap.size + 2, rfl, by simp [go_sem], (by repeat (first | with_reducible exact Below.refl _ _ | (with_reducible refine Below.drew ?_) | (with_reducible refine Below.alloc ?_ (by simp; try omega) _) | (with_reducible refine Below.setCell ?_ (by simp; try omega) _)))⟩

set_option maxRecDepth 100000 in
set_option maxHeartbeats 1000000 in
theorem msn5s (p : Nat) (n : Int) (w : World) (big : ByteArray) (hc : w.cell? ⟨p, 0, none⟩ = some (.string big)) (hne : (big.toList == [48]) = false) (hs : big.size < 2) :
    Calls Try.prog 23 #[.agg #[.iface 44 (.pointer (some ⟨p, 0, none⟩)), .int .i32 n]] w (IsB2 (false) n w) := by
  have hlt : p < w.heap.size := World.block_lt_of_cell? _ _ hc
  have hlt1 : p < w.heap.size + 1 := by omega
  have hlt2 : p < w.heap.size + 1 + 1 := by omega
  go_enter Try.func23, Try.ntmps23
  go_wp2_with fail
  refine (ceq_short _ _ hne hs).mono ?_
  rintro e w' ⟨rfl, rfl⟩
  go_wp2_with fail
  all_goals exact bodyPost_ret (v := .tuple #[.agg #[.iface 53 (.pointer (some ⟨w.heap.size + 2, 0, none⟩)), .int .i32 n], .bool true]) (by simp [results, Try.results23, go_sem]) rfl ⟨w.heap.size + 2, rfl, by simp [go_sem], (by repeat (first | with_reducible exact Below.refl _ _ | (with_reducible refine Below.drew ?_) | (with_reducible refine Below.alloc ?_ (by simp; try omega) _) | (with_reducible refine Below.setCell ?_ (by simp; try omega) _)))⟩

set_option maxRecDepth 100000 in
set_option maxHeartbeats 1000000 in
theorem msn5d (p : Nat) (n : Int) (w : World) (big : ByteArray) (hc : w.cell? ⟨p, 0, none⟩ = some (.string big)) (hne : (big.toList == [48]) = false) (hs : 2 ≤ big.size) (hm : big.size ≤ 1048576) (h0 : ((big[0].toNat : Int) != 48) = true) :
    Calls Try.prog 23 #[.agg #[.iface 44 (.pointer (some ⟨p, 0, none⟩)), .int .i32 n]] w (IsB2 (false) n w) := by
  have hlt : p < w.heap.size := World.block_lt_of_cell? _ _ hc
  have hlt1 : p < w.heap.size + 1 := by omega
  have hlt2 : p < w.heap.size + 1 + 1 := by omega
  go_enter Try.func23, Try.ntmps23
  go_wp2_with fail
  refine (ceq_dec _ _ hne hs hm h0).mono ?_
  rintro e w' ⟨rfl, rfl⟩
  go_wp2_with fail
  all_goals exact bodyPost_ret (v := .tuple #[.agg #[.iface 53 (.pointer (some ⟨w.heap.size + 2, 0, none⟩)), .int .i32 n], .bool true]) (by simp [results, Try.results23, go_sem]) rfl ⟨w.heap.size + 2, rfl, by simp [go_sem], (by repeat (first | with_reducible exact Below.refl _ _ | (with_reducible refine Below.drew ?_) | (with_reducible refine Below.alloc ?_ (by simp; try omega) _) | (with_reducible refine Below.setCell ?_ (by simp; try omega) _)))⟩

set_option maxRecDepth 100000 in
set_option maxHeartbeats 1000000 in
theorem msn6 (p : Nat) (n : Int) (w : World) :
    Calls Try.prog 23 #[.agg #[.iface 102 (.pointer (some ⟨p, 0, none⟩)), .int .i32 n]] w (IsB2 (false) n w) := by
  go_enter Try.func23, Try.ntmps23
  go_wp2_with fail
  all_goals exact bodyPost_ret (v := .tuple #[.agg #[.iface 53 (.pointer (some ⟨w.heap.size + 2, 0, none⟩)), .int .i32 n], .bool true]) (by simp [results, Try.results23, go_sem]) rfl ⟨w.heap.size + 2, rfl, by simp [go_sem], (by repeat (first | with_reducible exact Below.refl _ _ | (with_reducible refine Below.drew ?_) | (with_reducible refine Below.alloc ?_ (by simp; try omega) _) | (with_reducible refine Below.setCell ?_ (by simp; try omega) _)))⟩

set_option maxRecDepth 100000 in
set_option maxHeartbeats 1000000 in
theorem msn7 (p : Nat) (n : Int) (w : World) :
    Calls Try.prog 23 #[.agg #[.iface 114 (.pointer (some ⟨p, 0, none⟩)), .int .i32 n]] w (IsB2 (false) n w) := by
  go_enter Try.func23, Try.ntmps23
  go_wp2_with fail
  all_goals exact bodyPost_ret (v := .tuple #[.agg #[.iface 53 (.pointer (some ⟨w.heap.size + 2, 0, none⟩)), .int .i32 n], .bool true]) (by simp [results, Try.results23, go_sem]) rfl ⟨w.heap.size + 2, rfl, by simp [go_sem], (by repeat (first | with_reducible exact Below.refl _ _ | (with_reducible refine Below.drew ?_) | (with_reducible refine Below.alloc ?_ (by simp; try omega) _) | (with_reducible refine Below.setCell ?_ (by simp; try omega) _)))⟩

set_option maxRecDepth 100000 in
set_option maxHeartbeats 1000000 in
theorem msn8 (p : Nat) (n : Int) (w : World) :
    Calls Try.prog 23 #[.agg #[.iface 117 (.pointer (some ⟨p, 0, none⟩)), .int .i32 n]] w (IsB2 (false) n w) := by
  go_enter Try.func23, Try.ntmps23
  go_wp2_with fail
  all_goals exact bodyPost_ret (v := .tuple #[.agg #[.iface 53 (.pointer (some ⟨w.heap.size + 2, 0, none⟩)), .int .i32 n], .bool true]) (by simp [results, Try.results23, go_sem]) rfl ⟨w.heap.size + 2, rfl, by simp [go_sem], (by repeat (first | with_reducible exact Below.refl _ _ | (with_reducible refine Below.drew ?_) | (with_reducible refine Below.alloc ?_ (by simp; try omega) _) | (with_reducible refine Below.setCell ?_ (by simp; try omega) _)))⟩
end Go.Proofs.YtonhekaakddneaaRRR.fnNotLeafTable
