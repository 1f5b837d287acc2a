/- Proved here: the contracts of the builders of statements and bindings of the laws 11 and 53. No condition. -/
import Derived.Test.YtppcfibhpgjnoaaFIB
import Derived.Test.YtppcfibhpgjnoaaSKB
import Derived.WalkKit
import Derived.WalkSpells
import Derived.WalkLawsBesides
import Derived.Lib.Hide
import Derived.Lib.SliceRun
import Derived.Deep.RegionWith
import Derived.OwnWalk
import Derived.Laws.OwnMore
import Derived.Deep.AppendLies
namespace Go.Proofs.Ytppcfibhpgjnoaa
open Go.RowKit
set_option linter.unusedSimpArgs false
set_option linter.unusedVariables false

/-- A builder's answer: the node at a new block b. -/
def BP (bT T : Nat) (l : Int) (cs : Array Value) (W : World) (e : Ending) (w' : World) : Prop :=
  ∃ b, e = .returned (.agg #[.iface bT (.pointer (some ⟨b, 0, none⟩)), .int .i32 l]) ∧ At w' b T cs ∧ W.heap.size ≤ b ∧ Below W.heap.size W w'
theorem atNewB {w : World} {n : Nat} (h : w.heap.size = n) (t : TypeId) (cs : Array Value) : At (w.alloc (.cells cs t)) n t cs := by subst h; exact At.new w t cs

set_option maxRecDepth 100000 in
set_option maxHeartbeats 1000000 in
theorem bEmpty (l : Int) (w : World) : Calls Try.prog 22 #[.int .i32 l] w (BP 88 90 l #[] w) := by
  go_enter Try.func22, Try.ntmps22
  go_wp2_with fail
  exact bodyPost_ret (v := .agg #[.iface 88 (.pointer (some ⟨_, 0, none⟩)), .int .i32 l]) (by simp [results, Try.results22, go_sem, *]; try rfl) rfl ⟨_, rfl, (by first | exact atNewB (by simp [World.setCell]) _ _ | exact (atNewB (by simp [World.setCell]) _ _).alloc _), by first | omega | simp [World.setCell] | (simp [World.setCell]; omega), (by repeat (first | with_reducible exact Below.refl _ _ | (with_reducible refine Below.drew ?_) | (with_reducible refine Below.alloc ?_ (by simp; try omega) _) | (with_reducible refine Below.setCell ?_ (by simp; try omega) _)))⟩

set_option maxRecDepth 100000 in
set_option maxHeartbeats 1000000 in
theorem bDebugger (l : Int) (w : World) : Calls Try.prog 23 #[.int .i32 l] w (BP 115 116 l #[] w) := by
  go_enter Try.func23, Try.ntmps23
  go_wp2_with fail
  exact bodyPost_ret (v := .agg #[.iface 115 (.pointer (some ⟨_, 0, none⟩)), .int .i32 l]) (by simp [results, Try.results23, go_sem, *]; try rfl) rfl ⟨_, rfl, (by first | exact atNewB (by simp [World.setCell]) _ _ | exact (atNewB (by simp [World.setCell]) _ _).alloc _), by first | omega | simp [World.setCell] | (simp [World.setCell]; omega), (by repeat (first | with_reducible exact Below.refl _ _ | (with_reducible refine Below.drew ?_) | (with_reducible refine Below.alloc ?_ (by simp; try omega) _) | (with_reducible refine Below.setCell ?_ (by simp; try omega) _)))⟩

set_option maxRecDepth 100000 in
set_option maxHeartbeats 1000000 in
theorem bBreak (l : Int) (w : World) : Calls Try.prog 24 #[.int .i32 l] w (BP 100 103 l #[.pointer none] w) := by
  go_enter Try.func24, Try.ntmps24
  go_wp2_with fail
  exact bodyPost_ret (v := .agg #[.iface 100 (.pointer (some ⟨_, 0, none⟩)), .int .i32 l]) (by simp [results, Try.results24, go_sem, *]; try rfl) rfl ⟨_, rfl, (by first | exact atNewB (by simp [World.setCell]) _ _ | exact (atNewB (by simp [World.setCell]) _ _).alloc _), by first | omega | simp [World.setCell] | (simp [World.setCell]; omega), (by repeat (first | with_reducible exact Below.refl _ _ | (with_reducible refine Below.drew ?_) | (with_reducible refine Below.alloc ?_ (by simp; try omega) _) | (with_reducible refine Below.setCell ?_ (by simp; try omega) _)))⟩

set_option maxRecDepth 100000 in
set_option maxHeartbeats 1000000 in
theorem bContinue (l : Int) (w : World) : Calls Try.prog 25 #[.int .i32 l] w (BP 104 105 l #[.pointer none] w) := by
  go_enter Try.func25, Try.ntmps25
  go_wp2_with fail
  exact bodyPost_ret (v := .agg #[.iface 104 (.pointer (some ⟨_, 0, none⟩)), .int .i32 l]) (by simp [results, Try.results25, go_sem, *]; try rfl) rfl ⟨_, rfl, (by first | exact atNewB (by simp [World.setCell]) _ _ | exact (atNewB (by simp [World.setCell]) _ _).alloc _), by first | omega | simp [World.setCell] | (simp [World.setCell]; omega), (by repeat (first | with_reducible exact Below.refl _ _ | (with_reducible refine Below.drew ?_) | (with_reducible refine Below.alloc ?_ (by simp; try omega) _) | (with_reducible refine Below.setCell ?_ (by simp; try omega) _)))⟩

set_option maxRecDepth 100000 in
set_option maxHeartbeats 1000000 in
theorem bReturn (l : Int) (w : World) : Calls Try.prog 26 #[.int .i32 l] w (BP 97 99 l #[.nilIface, .int .i32 0] w) := by
  go_enter Try.func26, Try.ntmps26
  go_wp2_with fail
  exact bodyPost_ret (v := .agg #[.iface 97 (.pointer (some ⟨_, 0, none⟩)), .int .i32 l]) (by simp [results, Try.results26, go_sem, *]; try rfl) rfl ⟨_, rfl, (by first | exact atNewB (by simp [World.setCell]) _ _ | exact (atNewB (by simp [World.setCell]) _ _).alloc _), by first | omega | simp [World.setCell] | (simp [World.setCell]; omega), (by repeat (first | with_reducible exact Below.refl _ _ | (with_reducible refine Below.drew ?_) | (with_reducible refine Below.alloc ?_ (by simp; try omega) _) | (with_reducible refine Below.setCell ?_ (by simp; try omega) _)))⟩

set_option maxRecDepth 100000 in
set_option maxHeartbeats 1000000 in
theorem bComment (l : Int) (w : World) : Calls Try.prog 27 #[.int .i32 l] w (BP 173 175 l #[.string ⟨#[47, 47]⟩, .bool false] w) := by
  go_enter Try.func27, Try.ntmps27
  go_wp2_with fail
  exact bodyPost_ret (v := .agg #[.iface 173 (.pointer (some ⟨_, 0, none⟩)), .int .i32 l]) (by simp [results, Try.results27, go_sem, *]; try rfl) rfl ⟨_, rfl, (by first | exact atNewB (by simp [World.setCell]) _ _ | exact (atNewB (by simp [World.setCell]) _ _).alloc _), by first | omega | simp [World.setCell] | (simp [World.setCell]; omega), (by repeat (first | with_reducible exact Below.refl _ _ | (with_reducible refine Below.drew ?_) | (with_reducible refine Below.alloc ?_ (by simp; try omega) _) | (with_reducible refine Below.setCell ?_ (by simp; try omega) _)))⟩

set_option maxRecDepth 100000 in
set_option maxHeartbeats 1000000 in
theorem bIf (l : Int) (t1 q1 : Nat) (l1 : Int) (w : World) : Calls Try.prog 31 #[.int .i32 l, .agg #[.iface t1 (.pointer (some ⟨q1, 0, none⟩)), .int .i32 l1]] w (BP 134 136 l #[.nilIface, .int .i32 0, .iface t1 (.pointer (some ⟨q1, 0, none⟩)), .int .i32 l1, .nilIface, .int .i32 0, .bool false, .bool false] w) := by
  go_enter Try.func31, Try.ntmps31
  go_wp2_with fail
  exact bodyPost_ret (v := .agg #[.iface 134 (.pointer (some ⟨_, 0, none⟩)), .int .i32 l]) (by simp [results, Try.results31, go_sem, *]; try rfl) rfl ⟨_, rfl, (by first | exact atNewB (by simp [World.setCell]) _ _ | exact (atNewB (by simp [World.setCell]) _ _).alloc _), by first | omega | simp [World.setCell] | (simp [World.setCell]; omega), (by repeat (first | with_reducible exact Below.refl _ _ | (with_reducible refine Below.drew ?_) | (with_reducible refine Below.alloc ?_ (by simp; try omega) _) | (with_reducible refine Below.setCell ?_ (by simp; try omega) _)))⟩

set_option maxRecDepth 100000 in
set_option maxHeartbeats 1000000 in
theorem bIfElse (l : Int) (t1 q1 : Nat) (l1 : Int) (t2 q2 : Nat) (l2 : Int) (w : World) : Calls Try.prog 32 #[.int .i32 l, .agg #[.iface t1 (.pointer (some ⟨q1, 0, none⟩)), .int .i32 l1], .agg #[.iface t2 (.pointer (some ⟨q2, 0, none⟩)), .int .i32 l2]] w (BP 134 136 l #[.nilIface, .int .i32 0, .iface t1 (.pointer (some ⟨q1, 0, none⟩)), .int .i32 l1, .iface t2 (.pointer (some ⟨q2, 0, none⟩)), .int .i32 l2, .bool false, .bool false] w) := by
  go_enter Try.func32, Try.ntmps32
  go_wp2_with fail
  exact bodyPost_ret (v := .agg #[.iface 134 (.pointer (some ⟨_, 0, none⟩)), .int .i32 l]) (by simp [results, Try.results32, go_sem, *]; try rfl) rfl ⟨_, rfl, (by first | exact atNewB (by simp [World.setCell]) _ _ | exact (atNewB (by simp [World.setCell]) _ _).alloc _), by first | omega | simp [World.setCell] | (simp [World.setCell]; omega), (by repeat (first | with_reducible exact Below.refl _ _ | (with_reducible refine Below.drew ?_) | (with_reducible refine Below.alloc ?_ (by simp; try omega) _) | (with_reducible refine Below.setCell ?_ (by simp; try omega) _)))⟩

set_option maxRecDepth 100000 in
set_option maxHeartbeats 1000000 in
theorem bWhile (l : Int) (t1 q1 : Nat) (l1 : Int) (w : World) : Calls Try.prog 33 #[.int .i32 l, .agg #[.iface t1 (.pointer (some ⟨q1, 0, none⟩)), .int .i32 l1]] w (BP 140 142 l #[.nilIface, .int .i32 0, .iface t1 (.pointer (some ⟨q1, 0, none⟩)), .int .i32 l1, .bool false] w) := by
  go_enter Try.func33, Try.ntmps33
  go_wp2_with fail
  exact bodyPost_ret (v := .agg #[.iface 140 (.pointer (some ⟨_, 0, none⟩)), .int .i32 l]) (by simp [results, Try.results33, go_sem, *]; try rfl) rfl ⟨_, rfl, (by first | exact atNewB (by simp [World.setCell]) _ _ | exact (atNewB (by simp [World.setCell]) _ _).alloc _), by first | omega | simp [World.setCell] | (simp [World.setCell]; omega), (by repeat (first | with_reducible exact Below.refl _ _ | (with_reducible refine Below.drew ?_) | (with_reducible refine Below.alloc ?_ (by simp; try omega) _) | (with_reducible refine Below.setCell ?_ (by simp; try omega) _)))⟩

set_option maxRecDepth 100000 in
set_option maxHeartbeats 1000000 in
theorem bDoWhile (l : Int) (t1 q1 : Nat) (l1 : Int) (w : World) : Calls Try.prog 34 #[.int .i32 l, .agg #[.iface t1 (.pointer (some ⟨q1, 0, none⟩)), .int .i32 l1]] w (BP 137 139 l #[.iface t1 (.pointer (some ⟨q1, 0, none⟩)), .int .i32 l1, .nilIface, .int .i32 0] w) := by
  go_enter Try.func34, Try.ntmps34
  go_wp2_with fail
  exact bodyPost_ret (v := .agg #[.iface 137 (.pointer (some ⟨_, 0, none⟩)), .int .i32 l]) (by simp [results, Try.results34, go_sem, *]; try rfl) rfl ⟨_, rfl, (by first | exact atNewB (by simp [World.setCell]) _ _ | exact (atNewB (by simp [World.setCell]) _ _).alloc _), by first | omega | simp [World.setCell] | (simp [World.setCell]; omega), (by repeat (first | with_reducible exact Below.refl _ _ | (with_reducible refine Below.drew ?_) | (with_reducible refine Below.alloc ?_ (by simp; try omega) _) | (with_reducible refine Below.setCell ?_ (by simp; try omega) _)))⟩

set_option maxRecDepth 100000 in
set_option maxHeartbeats 1000000 in
theorem bLabel (l : Int) (t1 q1 : Nat) (l1 : Int) (w : World) : Calls Try.prog 35 #[.int .i32 l, .agg #[.iface t1 (.pointer (some ⟨q1, 0, none⟩)), .int .i32 l1]] w (BP 152 158 l #[.iface t1 (.pointer (some ⟨q1, 0, none⟩)), .int .i32 l1, .int .i32 0, .int .u32 0, .int .u32 0, .bool false] w) := by
  go_enter Try.func35, Try.ntmps35
  go_wp2_with fail
  exact bodyPost_ret (v := .agg #[.iface 152 (.pointer (some ⟨_, 0, none⟩)), .int .i32 l]) (by simp [results, Try.results35, go_sem, *]; try rfl) rfl ⟨_, rfl, (by first | exact atNewB (by simp [World.setCell]) _ _ | exact (atNewB (by simp [World.setCell]) _ _).alloc _), by first | omega | simp [World.setCell] | (simp [World.setCell]; omega), (by repeat (first | with_reducible exact Below.refl _ _ | (with_reducible refine Below.drew ?_) | (with_reducible refine Below.alloc ?_ (by simp; try omega) _) | (with_reducible refine Below.setCell ?_ (by simp; try omega) _)))⟩

set_option maxRecDepth 100000 in
set_option maxHeartbeats 1000000 in
theorem bFor (l : Int) (t1 q1 : Nat) (l1 : Int) (w : World) : Calls Try.prog 36 #[.int .i32 l, .agg #[.iface t1 (.pointer (some ⟨q1, 0, none⟩)), .int .i32 l1]] w (BP 143 145 l #[.nilIface, .int .i32 0, .nilIface, .int .i32 0, .nilIface, .int .i32 0, .iface t1 (.pointer (some ⟨q1, 0, none⟩)), .int .i32 l1, .bool false, .bool false] w) := by
  go_enter Try.func36, Try.ntmps36
  go_wp2_with fail
  exact bodyPost_ret (v := .agg #[.iface 143 (.pointer (some ⟨_, 0, none⟩)), .int .i32 l]) (by simp [results, Try.results36, go_sem, *]; try rfl) rfl ⟨_, rfl, (by first | exact atNewB (by simp [World.setCell]) _ _ | exact (atNewB (by simp [World.setCell]) _ _).alloc _), by first | omega | simp [World.setCell] | (simp [World.setCell]; omega), (by repeat (first | with_reducible exact Below.refl _ _ | (with_reducible refine Below.drew ?_) | (with_reducible refine Below.alloc ?_ (by simp; try omega) _) | (with_reducible refine Below.setCell ?_ (by simp; try omega) _)))⟩

set_option maxRecDepth 100000 in
set_option maxHeartbeats 1000000 in
theorem bForIn (l : Int) (t1 q1 : Nat) (l1 : Int) (t2 q2 : Nat) (l2 : Int) (w : World) : Calls Try.prog 37 #[.int .i32 l, .agg #[.iface t1 (.pointer (some ⟨q1, 0, none⟩)), .int .i32 l1], .agg #[.iface t2 (.pointer (some ⟨q2, 0, none⟩)), .int .i32 l2]] w (BP 149 151 l #[.iface t1 (.pointer (some ⟨q1, 0, none⟩)), .int .i32 l1, .nilIface, .int .i32 0, .iface t2 (.pointer (some ⟨q2, 0, none⟩)), .int .i32 l2, .bool false] w) := by
  go_enter Try.func37, Try.ntmps37
  go_wp2_with fail
  exact bodyPost_ret (v := .agg #[.iface 149 (.pointer (some ⟨_, 0, none⟩)), .int .i32 l]) (by simp [results, Try.results37, go_sem, *]; try rfl) rfl ⟨_, rfl, (by first | exact atNewB (by simp [World.setCell]) _ _ | exact (atNewB (by simp [World.setCell]) _ _).alloc _), by first | omega | simp [World.setCell] | (simp [World.setCell]; omega), (by repeat (first | with_reducible exact Below.refl _ _ | (with_reducible refine Below.drew ?_) | (with_reducible refine Below.alloc ?_ (by simp; try omega) _) | (with_reducible refine Below.setCell ?_ (by simp; try omega) _)))⟩

set_option maxRecDepth 100000 in
set_option maxHeartbeats 1000000 in
theorem bForOf (l : Int) (t1 q1 : Nat) (l1 : Int) (t2 q2 : Nat) (l2 : Int) (w : World) : Calls Try.prog 38 #[.int .i32 l, .agg #[.iface t1 (.pointer (some ⟨q1, 0, none⟩)), .int .i32 l1], .agg #[.iface t2 (.pointer (some ⟨q2, 0, none⟩)), .int .i32 l2]] w (BP 146 148 l #[.iface t1 (.pointer (some ⟨q1, 0, none⟩)), .int .i32 l1, .nilIface, .int .i32 0, .iface t2 (.pointer (some ⟨q2, 0, none⟩)), .int .i32 l2, .int .i32 0, .int .i32 0, .bool false] w) := by
  go_enter Try.func38, Try.ntmps38
  go_wp2_with fail
  exact bodyPost_ret (v := .agg #[.iface 146 (.pointer (some ⟨_, 0, none⟩)), .int .i32 l]) (by simp [results, Try.results38, go_sem, *]; try rfl) rfl ⟨_, rfl, (by first | exact atNewB (by simp [World.setCell]) _ _ | exact (atNewB (by simp [World.setCell]) _ _).alloc _), by first | omega | simp [World.setCell] | (simp [World.setCell]; omega), (by repeat (first | with_reducible exact Below.refl _ _ | (with_reducible refine Below.drew ?_) | (with_reducible refine Below.alloc ?_ (by simp; try omega) _) | (with_reducible refine Below.setCell ?_ (by simp; try omega) _)))⟩

set_option maxRecDepth 100000 in
set_option maxHeartbeats 1000000 in
theorem bBlock (l : Int) (a : Option Addr) (n c : Nat) (w : World) : Calls Try.prog 30 #[.int .i32 l, .slice a n c] w (BP 121 123 l #[.slice a n c, .int .i32 0] w) := by
  go_enter Try.func30, Try.ntmps30
  go_wp2_with fail
  exact bodyPost_ret (v := .agg #[.iface 121 (.pointer (some ⟨_, 0, none⟩)), .int .i32 l]) (by simp [results, Try.results30, go_sem, *]; try rfl) rfl ⟨_, rfl, (by first | exact atNewB (by simp [World.setCell]) _ _ | exact (atNewB (by simp [World.setCell]) _ _).alloc _), by first | omega | simp [World.setCell] | (simp [World.setCell]; omega), (by repeat (first | with_reducible exact Below.refl _ _ | (with_reducible refine Below.drew ?_) | (with_reducible refine Below.alloc ?_ (by simp; try omega) _) | (with_reducible refine Below.setCell ?_ (by simp; try omega) _)))⟩

set_option maxRecDepth 100000 in
set_option maxHeartbeats 1000000 in
theorem bArr (l : Int) (a : Option Addr) (n c : Nat) (w : World) : Calls Try.prog 29 #[.int .i32 l, .slice a n c] w (BP 48 57 l #[.slice a n c, .int .i32 0, .bool false, .bool false] w) := by
  go_enter Try.func29, Try.ntmps29
  go_wp2_with fail
  exact bodyPost_ret (v := .agg #[.iface 48 (.pointer (some ⟨_, 0, none⟩)), .int .i32 l]) (by simp [results, Try.results29, go_sem, *]; try rfl) rfl ⟨_, rfl, (by first | exact atNewB (by simp [World.setCell]) _ _ | exact (atNewB (by simp [World.setCell]) _ _).alloc _), by first | omega | simp [World.setCell] | (simp [World.setCell]; omega), (by repeat (first | with_reducible exact Below.refl _ _ | (with_reducible refine Below.drew ?_) | (with_reducible refine Below.alloc ?_ (by simp; try omega) _) | (with_reducible refine Below.setCell ?_ (by simp; try omega) _)))⟩

set_option maxRecDepth 100000 in
set_option maxHeartbeats 1000000 in
theorem bObj (l : Int) (a : Option Addr) (n c : Nat) (w : World) : Calls Try.prog 46 #[.int .i32 l, .slice a n c] w (BP 58 63 l #[.slice a n c, .int .i32 0, .bool false] w) := by
  go_enter Try.func46, Try.ntmps46
  go_wp2_with fail
  exact bodyPost_ret (v := .agg #[.iface 58 (.pointer (some ⟨_, 0, none⟩)), .int .i32 l]) (by simp [results, Try.results46, go_sem, *]; try rfl) rfl ⟨_, rfl, (by first | exact atNewB (by simp [World.setCell]) _ _ | exact (atNewB (by simp [World.setCell]) _ _).alloc _), by first | omega | simp [World.setCell] | (simp [World.setCell]; omega), (by repeat (first | with_reducible exact Below.refl _ _ | (with_reducible refine Below.drew ?_) | (with_reducible refine Below.alloc ?_ (by simp; try omega) _) | (with_reducible refine Below.setCell ?_ (by simp; try omega) _)))⟩

set_option maxRecDepth 100000 in
set_option maxHeartbeats 1000000 in
theorem bId (l : Int) (u : Int) (w : World) : Calls Try.prog 28 #[.int .i32 l, .int .u32 u] w (BP 165 167 l #[.int .u32 0, .int .u32 u] w) := by
  go_enter Try.func28, Try.ntmps28
  go_wp2_with fail
  exact bodyPost_ret (v := .agg #[.iface 165 (.pointer (some ⟨_, 0, none⟩)), .int .i32 l]) (by simp [results, Try.results28, go_sem, *]; try rfl) rfl ⟨_, rfl, (by first | exact atNewB (by simp [World.setCell]) _ _ | exact (atNewB (by simp [World.setCell]) _ _).alloc _), by first | omega | simp [World.setCell] | (simp [World.setCell]; omega), (by repeat (first | with_reducible exact Below.refl _ _ | (with_reducible refine Below.drew ?_) | (with_reducible refine Below.alloc ?_ (by simp; try omega) _) | (with_reducible refine Below.setCell ?_ (by simp; try omega) _)))⟩

set_option maxRecDepth 100000 in
set_option maxHeartbeats 1000000 in
theorem bNum (l : Int) (w : World) : Calls Try.prog 20 #[.int .i32 l] w (BP 169 172 l #[.float .f64 4607182418800017408] w) := by
  go_enter Try.func20, Try.ntmps20
  go_wp2_with fail
  exact bodyPost_ret (v := .agg #[.iface 169 (.pointer (some ⟨_, 0, none⟩)), .int .i32 l]) (by simp [results, Try.results20, go_sem, *]; try rfl) rfl ⟨_, rfl, (by first | exact atNewB (by simp [World.setCell]) _ _ | exact (atNewB (by simp [World.setCell]) _ _).alloc _), by first | omega | simp [World.setCell] | (simp [World.setCell]; omega), (by repeat (first | with_reducible exact Below.refl _ _ | (with_reducible refine Below.drew ?_) | (with_reducible refine Below.alloc ?_ (by simp; try omega) _) | (with_reducible refine Below.setCell ?_ (by simp; try omega) _)))⟩

set_option maxRecDepth 100000 in
theorem bLocal (l : Int) (b : Nat) (w : World) : Calls Try.prog 21 #[.int .i32 l, .pointer (some ⟨b, 0, none⟩)] w fun e w' => e = .returned (.agg #[.iface 75 (.pointer (some ⟨b, 0, none⟩)), .int .i32 l]) ∧ Below w.heap.size w w' := by
  go_enter Try.func21, Try.ntmps21
  go_wp2_with fail
  exact bodyPost_ret (v := .agg #[.iface 75 (.pointer (some ⟨b, 0, none⟩)), .int .i32 l]) (by simp [results, Try.results21, go_sem, *]) rfl ⟨rfl, (by repeat (first | with_reducible exact Below.refl _ _ | (with_reducible refine Below.drew ?_) | (with_reducible refine Below.alloc ?_ (by simp; try omega) _) | (with_reducible refine Below.setCell ?_ (by simp; try omega) _)))⟩

def BT (l : Int) (v1 v2 v3 : Value) (W : World) (e : Ending) (w' : World) : Prop :=
  ∃ b1 b2 b, e = .returned (.agg #[.iface 125 (.pointer (some ⟨b, 0, none⟩)), .int .i32 l]) ∧ At w' b 129 #[.pointer (some ⟨b1, 0, none⟩), .pointer (some ⟨b2, 0, none⟩), v1, .int .i32 0, .int .i32 0] ∧ At w' b1 131 #[.nilIface, .int .i32 0, v2, .int .i32 0, .int .i32 0, .int .i32 0] ∧ At w' b2 133 #[v3, .int .i32 0, .int .i32 0] ∧ W.heap.size ≤ b ∧ W.heap.size ≤ b1 ∧ W.heap.size ≤ b2 ∧ Below W.heap.size W w'
set_option maxRecDepth 100000 in
set_option maxHeartbeats 1000000 in
theorem bTry (l : Int) (a1 a2 a3 : Option Addr) (n1 c1 n2 c2 n3 c3 : Nat) (w : World) : Calls Try.prog 39 #[.int .i32 l, .slice a1 n1 c1, .slice a2 n2 c2, .slice a3 n3 c3] w (BT l (.slice a1 n1 c1) (.slice a2 n2 c2) (.slice a3 n3 c3) w) := by
  go_enter Try.func39, Try.ntmps39
  go_wp2_with fail
  exact bodyPost_ret (v := .agg #[.iface 125 (.pointer (some ⟨_, 0, none⟩)), .int .i32 l]) (by simp [results, Try.results39, go_sem, *]; try rfl) rfl ⟨_, _, _, rfl, (by first | exact atNewB (by simp [World.setCell]) _ _ | exact (atNewB (by simp [World.setCell]) _ _).alloc _), (by first | exact (atNewB (by simp [World.setCell]) _ _).alloc _ | exact ((atNewB (by simp [World.setCell]) _ _).alloc _).alloc _), (by first | exact (atNewB (by simp [World.setCell]) _ _).alloc _ | exact ((atNewB (by simp [World.setCell]) _ _).alloc _).alloc _), by first | omega | simp [World.setCell], by first | omega | simp [World.setCell], by first | omega | simp [World.setCell], (by repeat (first | with_reducible exact Below.refl _ _ | (with_reducible refine Below.drew ?_) | (with_reducible refine Below.alloc ?_ (by simp; try omega) _) | (with_reducible refine Below.setCell ?_ (by simp; try omega) _)))⟩
end Go.Proofs.Ytppcfibhpgjnoaa
