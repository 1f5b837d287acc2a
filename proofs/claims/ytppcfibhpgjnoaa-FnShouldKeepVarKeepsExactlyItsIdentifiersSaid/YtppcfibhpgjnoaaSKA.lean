/- Proved here: what shouldKeepStmtInDeadControlFlow answers at each kind of statement but SLocal, from what it answers at the parts. Conditions: the cells, as stated. -/
import Derived.Test.YtppcfibhpgjnoaaFIA
import Derived.WalkKit
import Derived.WalkSpells
import Derived.WalkLawsBesides
import Derived.Lib.Hide
import Derived.Lib.SliceRun
import Derived.Deep.RegionWith
import Derived.OwnWalk
import Derived.Laws.OwnMore
import Derived.Deep.AppendLies
namespace Go.Proofs.Ytppcfibhpgjnoaa
open Go.RowKit
set_option linter.unusedSimpArgs false
set_option linter.unusedVariables false

def SKP (B : Nat) (keep : Bool) (W : World) (e : Ending) (w' : World) : Prop := e = .returned (.bool keep) ∧ Below B W w' ∧ (keep = false → Below W.heap.size W w')
theorem SKP.trans {B : Nat} {k : Bool} {W w1 w' : World} {e : Ending} (h1 : Below W.heap.size W w1) (hB : B ≤ W.heap.size) (h : SKP B k w1 e w') : SKP B k W e w' :=
  ⟨h.1, (h1.mono hB).trans h.2.1, fun hk => h1.trans ((h.2.2 hk).mono h1.size)⟩
theorem SKP.eq {B : Nat} {k k' : Bool} {W w' : World} {e : Ending} (h : SKP B k W e w') (hk : k = k') : SKP B k' W e w' := hk ▸ h
theorem SKP.no {B : Nat} {W w' : World} (h : Below W.heap.size W w') (hB : B ≤ W.heap.size) : SKP B false W (.returned (.bool false)) w' := ⟨rfl, h.mono hB, fun _ => h⟩
theorem SKP.yes {B : Nat} {W w' : World} (h : Below B W w') : SKP B true W (.returned (.bool true)) w' := ⟨rfl, h, fun h => by cases h⟩
/-- In w and in whatever keeps its blocks of S, the statement (d, l) is kept or not as told; blocks below B stay. -/
def SK (B : Nat) (S : Nat → Prop) (w : World) (d : Value) (l : Int) (keep : Bool) : Prop :=
  (∀ b, S b → B ≤ b ∧ b < w.heap.size) ∧ ∀ W, (∀ b, S b → W.heap[b]? = w.heap[b]?) → B ≤ W.heap.size → Calls Try.prog 40 #[.agg #[d, .int .i32 l]] W (SKP B keep W)
def KL (B : Nat) (S : Nat → Prop) (w : World) (v : Value) (keep : Bool) : Prop :=
  (∀ b, S b → B ≤ b ∧ b < w.heap.size) ∧ ∀ W, (∀ b, S b → W.heap[b]? = w.heap[b]?) → B ≤ W.heap.size → Calls Try.prog 44 #[v] W (SKP B keep W)
theorem SK.keep {B : Nat} {S : Nat → Prop} {w w' : World} {d : Value} {l : Int} {k : Bool} (h : SK B S w d l k) (hs : w.heap.size ≤ w'.heap.size) (hk : ∀ b, S b → w'.heap[b]? = w.heap[b]?) : SK B S w' d l k :=
  ⟨fun b hb => ⟨(h.1 b hb).1, Nat.lt_of_lt_of_le (h.1 b hb).2 hs⟩, fun W hW => h.2 W (fun b hb => (hW b hb).trans (hk b hb))⟩
theorem SK.more {B : Nat} {S S' : Nat → Prop} {w : World} {d : Value} {l : Int} {k : Bool} (h : SK B S w d l k) (hs : ∀ b, S b → S' b) (hl : ∀ b, S' b → B ≤ b ∧ b < w.heap.size) : SK B S' w d l k :=
  ⟨hl, fun W hW => h.2 W (fun b hb => hW b (hs b hb))⟩
theorem KL.keep {B : Nat} {S : Nat → Prop} {w w' : World} {v : Value} {k : Bool} (h : KL B S w v k) (hs : w.heap.size ≤ w'.heap.size) (hk : ∀ b, S b → w'.heap[b]? = w.heap[b]?) : KL B S w' v k :=
  ⟨fun b hb => ⟨(h.1 b hb).1, Nat.lt_of_lt_of_le (h.1 b hb).2 hs⟩, fun W hW => h.2 W (fun b hb => (hW b hb).trans (hk b hb))⟩
theorem KL.more {B : Nat} {S S' : Nat → Prop} {w : World} {v : Value} {k : Bool} (h : KL B S w v k) (hs : ∀ b, S b → S' b) (hl : ∀ b, S' b → B ≤ b ∧ b < w.heap.size) : KL B S' w v k :=
  ⟨hl, fun W hW => h.2 W (fun b hb => hW b (hs b hb))⟩
theorem ltOf {S : Nat → Prop} {B : Nat} {w W : World} (h : ∀ b, S b → B ≤ b ∧ b < w.heap.size) (hW : ∀ b, S b → W.heap[b]? = w.heap[b]?) : ∀ b, S b → b < W.heap.size := fun b hb => by
  have h1 := (h b hb).2
  have h2 := hW b hb
  rw [Array.getElem?_eq_getElem h1] at h2
  exact (Array.getElem?_eq_some_iff.1 h2).1
/-- Calls of a part, over any world that keeps W. -/
theorem SK.at {B : Nat} {S : Nat → Prop} {w W : World} {d : Value} {l : Int} {k : Bool} (h : SK B S w d l k) (hW : ∀ b, S b → W.heap[b]? = w.heap[b]?) (hB : B ≤ W.heap.size) (W' : World) (hb : Below W.heap.size W W') : Calls Try.prog 40 #[.agg #[d, .int .i32 l]] W' (SKP B k W') :=
  h.2 W' (fun b hs => (hb.block b (ltOf h.1 hW b hs)).trans (hW b hs)) (Nat.le_trans hB hb.size)
theorem KL.at {B : Nat} {S : Nat → Prop} {w W : World} {v : Value} {k : Bool} (h : KL B S w v k) (hW : ∀ b, S b → W.heap[b]? = w.heap[b]?) (hB : B ≤ W.heap.size) (W' : World) (hb : Below W.heap.size W W') : Calls Try.prog 44 #[v] W' (SKP B k W') :=
  h.2 W' (fun b hs => (hb.block b (ltOf h.1 hW b hs)).trans (hW b hs)) (Nat.le_trans hB hb.size)

set_option maxRecDepth 100000 in
set_option maxHeartbeats 1000000 in
theorem skEmpty (B b : Nat) (l : Int) (w : World) : SK B (fun _ => False) w (.iface 88 (.pointer (some ⟨b, 0, none⟩))) l false := by
  refine ⟨fun b hb => hb.elim, fun W _ hB => ?_⟩
  go_enter Try.func40, Try.ntmps40
  go_wp2_with fail
  go_ret
  exact SKP.no ((Below.refl _ _).alloc (Nat.le_refl _) _) hB

set_option maxRecDepth 100000 in
set_option maxHeartbeats 1000000 in
theorem skExpr (B b : Nat) (l : Int) (w : World) : SK B (fun _ => False) w (.iface 91 (.pointer (some ⟨b, 0, none⟩))) l false := by
  refine ⟨fun b hb => hb.elim, fun W _ hB => ?_⟩
  go_enter Try.func40, Try.ntmps40
  go_wp2_with fail
  go_ret
  exact SKP.no ((Below.refl _ _).alloc (Nat.le_refl _) _) hB

set_option maxRecDepth 100000 in
set_option maxHeartbeats 1000000 in
theorem skThrow (B b : Nat) (l : Int) (w : World) : SK B (fun _ => False) w (.iface 94 (.pointer (some ⟨b, 0, none⟩))) l false := by
  refine ⟨fun b hb => hb.elim, fun W _ hB => ?_⟩
  go_enter Try.func40, Try.ntmps40
  go_wp2_with fail
  go_ret
  exact SKP.no ((Below.refl _ _).alloc (Nat.le_refl _) _) hB

set_option maxRecDepth 100000 in
set_option maxHeartbeats 1000000 in
theorem skReturn (B b : Nat) (l : Int) (w : World) : SK B (fun _ => False) w (.iface 97 (.pointer (some ⟨b, 0, none⟩))) l false := by
  refine ⟨fun b hb => hb.elim, fun W _ hB => ?_⟩
  go_enter Try.func40, Try.ntmps40
  go_wp2_with fail
  go_ret
  exact SKP.no ((Below.refl _ _).alloc (Nat.le_refl _) _) hB

set_option maxRecDepth 100000 in
set_option maxHeartbeats 1000000 in
theorem skBreak (B b : Nat) (l : Int) (w : World) : SK B (fun _ => False) w (.iface 100 (.pointer (some ⟨b, 0, none⟩))) l false := by
  refine ⟨fun b hb => hb.elim, fun W _ hB => ?_⟩
  go_enter Try.func40, Try.ntmps40
  go_wp2_with fail
  go_ret
  exact SKP.no ((Below.refl _ _).alloc (Nat.le_refl _) _) hB

set_option maxRecDepth 100000 in
set_option maxHeartbeats 1000000 in
theorem skContinue (B b : Nat) (l : Int) (w : World) : SK B (fun _ => False) w (.iface 104 (.pointer (some ⟨b, 0, none⟩))) l false := by
  refine ⟨fun b hb => hb.elim, fun W _ hB => ?_⟩
  go_enter Try.func40, Try.ntmps40
  go_wp2_with fail
  go_ret
  exact SKP.no ((Below.refl _ _).alloc (Nat.le_refl _) _) hB

set_option maxRecDepth 100000 in
set_option maxHeartbeats 1000000 in
theorem skClass (B b : Nat) (l : Int) (w : World) : SK B (fun _ => False) w (.iface 106 (.pointer (some ⟨b, 0, none⟩))) l false := by
  refine ⟨fun b hb => hb.elim, fun W _ hB => ?_⟩
  go_enter Try.func40, Try.ntmps40
  go_wp2_with fail
  go_ret
  exact SKP.no ((Below.refl _ _).alloc (Nat.le_refl _) _) hB

set_option maxRecDepth 100000 in
set_option maxHeartbeats 1000000 in
theorem skDebugger (B b : Nat) (l : Int) (w : World) : SK B (fun _ => False) w (.iface 115 (.pointer (some ⟨b, 0, none⟩))) l false := by
  refine ⟨fun b hb => hb.elim, fun W _ hB => ?_⟩
  go_enter Try.func40, Try.ntmps40
  go_wp2_with fail
  go_ret
  exact SKP.no ((Below.refl _ _).alloc (Nat.le_refl _) _) hB

set_option maxRecDepth 100000 in
set_option maxHeartbeats 1000000 in
theorem skDirective (B b : Nat) (l : Int) (w : World) : SK B (fun _ => False) w (.iface 159 (.pointer (some ⟨b, 0, none⟩))) l true := by
  refine ⟨fun b hb => hb.elim, fun W _ hB => ?_⟩
  go_enter Try.func40, Try.ntmps40
  go_wp2_with fail
  go_ret
  exact SKP.yes ((Below.refl _ _).alloc hB _)

set_option maxRecDepth 100000 in
set_option maxHeartbeats 1000000 in
theorem skComment (B b : Nat) (l : Int) (w : World) : SK B (fun _ => False) w (.iface 173 (.pointer (some ⟨b, 0, none⟩))) l true := by
  refine ⟨fun b hb => hb.elim, fun W _ hB => ?_⟩
  go_enter Try.func40, Try.ntmps40
  go_wp2_with fail
  go_ret
  exact SKP.yes ((Below.refl _ _).alloc hB _)

set_option maxRecDepth 100000 in
set_option maxHeartbeats 2000000 in
theorem skBlock {B : Nat} {S : Nat → Prop} {w : World} {a0 : Option Addr} {n0 cp0 : Nat} {k0 : Bool} (b : Nat) (l : Int) (hS : ∀ b, S b → B ≤ b ∧ b < w.heap.size) (hb : S b)  (c0a : w.cell? ⟨b, 0, none⟩ = some (.slice a0 n0 cp0)) (h0 : KL B S w (.slice a0 n0 cp0) k0) : SK B S w (.iface 121 (.pointer (some ⟨b, 0, none⟩))) l (k0) := by
  refine ⟨hS, fun W hW hB => ?_⟩
  have d0a := (World.cell?_of_block (a := ⟨b, 0, none⟩) (hW _ hb)).trans c0a
  have H0 := Lib.hid (h0.at hW hB)
  have lt0 := ltOf hS hW _ hb
  have lu0 : b < W.heap.size + 1 := by omega
  have HB := Lib.hid hB
  have Z0 := Lib.hid (show Below W.heap.size W W from Below.refl _ _)
  clear hW hB c0a h0
  go_enter Try.func40, Try.ntmps40
  go_wp2_with fail
  refine (H0.out _ (by repeat (first | with_reducible exact Z0.out | (with_reducible refine Below.alloc ?_ (by have := Below.size Z0.out; simp; try omega) _)))).mono ?_
  rintro e w1 ⟨rfl, y1, y2⟩
  have HF := Lib.hid (show SKP B k0 W (.returned (.bool k0)) w1 from SKP.trans (by repeat (first | with_reducible exact Z0.out | (with_reducible refine Below.alloc ?_ (by have := Below.size Z0.out; simp; try omega) _))) HB.out ⟨rfl, y1, y2⟩)
  clear y1 y2
  go_wp2_with fail
  go_ret
  exact HF.out.eq (by first | rfl | simp)

set_option maxRecDepth 100000 in
set_option maxHeartbeats 2000000 in
theorem skWhile {B : Nat} {S : Nat → Prop} {w : World} {ty0 q0 : Nat} {l0 : Int} {k0 : Bool} (b : Nat) (l : Int) (hS : ∀ b, S b → B ≤ b ∧ b < w.heap.size) (hb : S b)  (c0a : w.cell? ⟨b, 2, none⟩ = some (.iface ty0 (.pointer (some ⟨q0, 0, none⟩)))) (c0b : w.cell? ⟨b, 3, none⟩ = some (.int .i32 l0)) (h0 : SK B S w (.iface ty0 (.pointer (some ⟨q0, 0, none⟩))) l0 k0) : SK B S w (.iface 140 (.pointer (some ⟨b, 0, none⟩))) l (k0) := by
  refine ⟨hS, fun W hW hB => ?_⟩
  have d0a := (World.cell?_of_block (a := ⟨b, 2, none⟩) (hW _ hb)).trans c0a
  have d0b := (World.cell?_of_block (a := ⟨b, 3, none⟩) (hW _ hb)).trans c0b
  have H0 := Lib.hid (h0.at hW hB)
  have lt0 := ltOf hS hW _ hb
  have lu0 : b < W.heap.size + 1 := by omega
  have HB := Lib.hid hB
  have Z0 := Lib.hid (show Below W.heap.size W W from Below.refl _ _)
  clear hW hB c0a c0b h0
  go_enter Try.func40, Try.ntmps40
  go_wp2_with fail
  refine (H0.out _ (by repeat (first | with_reducible exact Z0.out | (with_reducible refine Below.alloc ?_ (by have := Below.size Z0.out; simp; try omega) _)))).mono ?_
  rintro e w1 ⟨rfl, y1, y2⟩
  have HF := Lib.hid (show SKP B k0 W (.returned (.bool k0)) w1 from SKP.trans (by repeat (first | with_reducible exact Z0.out | (with_reducible refine Below.alloc ?_ (by have := Below.size Z0.out; simp; try omega) _))) HB.out ⟨rfl, y1, y2⟩)
  clear y1 y2
  go_wp2_with fail
  go_ret
  exact HF.out.eq (by first | rfl | simp)

set_option maxRecDepth 100000 in
set_option maxHeartbeats 2000000 in
theorem skDoWhile {B : Nat} {S : Nat → Prop} {w : World} {ty0 q0 : Nat} {l0 : Int} {k0 : Bool} (b : Nat) (l : Int) (hS : ∀ b, S b → B ≤ b ∧ b < w.heap.size) (hb : S b)  (c0a : w.cell? ⟨b, 0, none⟩ = some (.iface ty0 (.pointer (some ⟨q0, 0, none⟩)))) (c0b : w.cell? ⟨b, 1, none⟩ = some (.int .i32 l0)) (h0 : SK B S w (.iface ty0 (.pointer (some ⟨q0, 0, none⟩))) l0 k0) : SK B S w (.iface 137 (.pointer (some ⟨b, 0, none⟩))) l (k0) := by
  refine ⟨hS, fun W hW hB => ?_⟩
  have d0a := (World.cell?_of_block (a := ⟨b, 0, none⟩) (hW _ hb)).trans c0a
  have d0b := (World.cell?_of_block (a := ⟨b, 1, none⟩) (hW _ hb)).trans c0b
  have H0 := Lib.hid (h0.at hW hB)
  have lt0 := ltOf hS hW _ hb
  have lu0 : b < W.heap.size + 1 := by omega
  have HB := Lib.hid hB
  have Z0 := Lib.hid (show Below W.heap.size W W from Below.refl _ _)
  clear hW hB c0a c0b h0
  go_enter Try.func40, Try.ntmps40
  go_wp2_with fail
  refine (H0.out _ (by repeat (first | with_reducible exact Z0.out | (with_reducible refine Below.alloc ?_ (by have := Below.size Z0.out; simp; try omega) _)))).mono ?_
  rintro e w1 ⟨rfl, y1, y2⟩
  have HF := Lib.hid (show SKP B k0 W (.returned (.bool k0)) w1 from SKP.trans (by repeat (first | with_reducible exact Z0.out | (with_reducible refine Below.alloc ?_ (by have := Below.size Z0.out; simp; try omega) _))) HB.out ⟨rfl, y1, y2⟩)
  clear y1 y2
  go_wp2_with fail
  go_ret
  exact HF.out.eq (by first | rfl | simp)

set_option maxRecDepth 100000 in
set_option maxHeartbeats 2000000 in
theorem skLabel {B : Nat} {S : Nat → Prop} {w : World} {ty0 q0 : Nat} {l0 : Int} {k0 : Bool} (b : Nat) (l : Int) (hS : ∀ b, S b → B ≤ b ∧ b < w.heap.size) (hb : S b)  (c0a : w.cell? ⟨b, 0, none⟩ = some (.iface ty0 (.pointer (some ⟨q0, 0, none⟩)))) (c0b : w.cell? ⟨b, 1, none⟩ = some (.int .i32 l0)) (h0 : SK B S w (.iface ty0 (.pointer (some ⟨q0, 0, none⟩))) l0 k0) : SK B S w (.iface 152 (.pointer (some ⟨b, 0, none⟩))) l (k0) := by
  refine ⟨hS, fun W hW hB => ?_⟩
  have d0a := (World.cell?_of_block (a := ⟨b, 0, none⟩) (hW _ hb)).trans c0a
  have d0b := (World.cell?_of_block (a := ⟨b, 1, none⟩) (hW _ hb)).trans c0b
  have H0 := Lib.hid (h0.at hW hB)
  have lt0 := ltOf hS hW _ hb
  have lu0 : b < W.heap.size + 1 := by omega
  have HB := Lib.hid hB
  have Z0 := Lib.hid (show Below W.heap.size W W from Below.refl _ _)
  clear hW hB c0a c0b h0
  go_enter Try.func40, Try.ntmps40
  go_wp2_with fail
  refine (H0.out _ (by repeat (first | with_reducible exact Z0.out | (with_reducible refine Below.alloc ?_ (by have := Below.size Z0.out; simp; try omega) _)))).mono ?_
  rintro e w1 ⟨rfl, y1, y2⟩
  have HF := Lib.hid (show SKP B k0 W (.returned (.bool k0)) w1 from SKP.trans (by repeat (first | with_reducible exact Z0.out | (with_reducible refine Below.alloc ?_ (by have := Below.size Z0.out; simp; try omega) _))) HB.out ⟨rfl, y1, y2⟩)
  clear y1 y2
  go_wp2_with fail
  go_ret
  exact HF.out.eq (by first | rfl | simp)

set_option maxRecDepth 100000 in
set_option maxHeartbeats 2000000 in
theorem skForIn {B : Nat} {S : Nat → Prop} {w : World} {ty0 q0 : Nat} {l0 : Int} {k0 : Bool} {ty1 q1 : Nat} {l1 : Int} {k1 : Bool} (b : Nat) (l : Int) (hS : ∀ b, S b → B ≤ b ∧ b < w.heap.size) (hb : S b)  (c0a : w.cell? ⟨b, 0, none⟩ = some (.iface ty0 (.pointer (some ⟨q0, 0, none⟩)))) (c0b : w.cell? ⟨b, 1, none⟩ = some (.int .i32 l0)) (h0 : SK B S w (.iface ty0 (.pointer (some ⟨q0, 0, none⟩))) l0 k0) (c1a : w.cell? ⟨b, 4, none⟩ = some (.iface ty1 (.pointer (some ⟨q1, 0, none⟩)))) (c1b : w.cell? ⟨b, 5, none⟩ = some (.int .i32 l1)) (h1 : SK B S w (.iface ty1 (.pointer (some ⟨q1, 0, none⟩))) l1 k1) : SK B S w (.iface 149 (.pointer (some ⟨b, 0, none⟩))) l (k0 || k1) := by
  refine ⟨hS, fun W hW hB => ?_⟩
  have d0a := (World.cell?_of_block (a := ⟨b, 0, none⟩) (hW _ hb)).trans c0a
  have d0b := (World.cell?_of_block (a := ⟨b, 1, none⟩) (hW _ hb)).trans c0b
  have H0 := Lib.hid (h0.at hW hB)
  have d1a := (World.cell?_of_block (a := ⟨b, 4, none⟩) (hW _ hb)).trans c1a
  have d1b := (World.cell?_of_block (a := ⟨b, 5, none⟩) (hW _ hb)).trans c1b
  have H1 := Lib.hid (h1.at hW hB)
  have lt0 := ltOf hS hW _ hb
  have lu0 : b < W.heap.size + 1 := by omega
  have HB := Lib.hid hB
  have Z0 := Lib.hid (show Below W.heap.size W W from Below.refl _ _)
  clear hW hB c0a c0b h0 c1a c1b h1
  go_enter Try.func40, Try.ntmps40
  go_wp2_with fail
  refine (H0.out _ (by repeat (first | with_reducible exact Z0.out | (with_reducible refine Below.alloc ?_ (by have := Below.size Z0.out; simp; try omega) _)))).mono ?_
  rintro e w1 ⟨rfl, y1, y2⟩
  have HF := Lib.hid (show SKP B k0 W (.returned (.bool k0)) w1 from SKP.trans (by repeat (first | with_reducible exact Z0.out | (with_reducible refine Below.alloc ?_ (by have := Below.size Z0.out; simp; try omega) _))) HB.out ⟨rfl, y1, y2⟩)
  clear y1 y2
  cases k0
  · have Z1 := Lib.hid (HF.out.2.2 rfl)
    have nd1a := kept Z1.out d1a
    have nd1b := kept Z1.out d1b
    have nl00 := Nat.lt_of_lt_of_le lt0 Z1.out.size
    clear HF
    go_wp2_with fail
    refine (H1.out _ (by repeat (first | with_reducible exact Z1.out | (with_reducible refine Below.alloc ?_ (by have := Below.size Z1.out; simp; try omega) _)))).mono ?_
    rintro e w2 ⟨rfl, y1, y2⟩
    have HF := Lib.hid (show SKP B k1 W (.returned (.bool k1)) w2 from SKP.trans (by repeat (first | with_reducible exact Z1.out | (with_reducible refine Below.alloc ?_ (by have := Below.size Z1.out; simp; try omega) _))) HB.out ⟨rfl, y1, y2⟩)
    clear y1 y2
    go_wp2_with fail
    go_ret
    exact HF.out.eq (by first | rfl | simp)
  · go_wp2_with fail
    go_ret
    exact HF.out.eq (by first | rfl | simp)

set_option maxRecDepth 100000 in
set_option maxHeartbeats 2000000 in
theorem skForOf {B : Nat} {S : Nat → Prop} {w : World} {ty0 q0 : Nat} {l0 : Int} {k0 : Bool} {ty1 q1 : Nat} {l1 : Int} {k1 : Bool} (b : Nat) (l : Int) (hS : ∀ b, S b → B ≤ b ∧ b < w.heap.size) (hb : S b)  (c0a : w.cell? ⟨b, 0, none⟩ = some (.iface ty0 (.pointer (some ⟨q0, 0, none⟩)))) (c0b : w.cell? ⟨b, 1, none⟩ = some (.int .i32 l0)) (h0 : SK B S w (.iface ty0 (.pointer (some ⟨q0, 0, none⟩))) l0 k0) (c1a : w.cell? ⟨b, 4, none⟩ = some (.iface ty1 (.pointer (some ⟨q1, 0, none⟩)))) (c1b : w.cell? ⟨b, 5, none⟩ = some (.int .i32 l1)) (h1 : SK B S w (.iface ty1 (.pointer (some ⟨q1, 0, none⟩))) l1 k1) : SK B S w (.iface 146 (.pointer (some ⟨b, 0, none⟩))) l (k0 || k1) := by
  refine ⟨hS, fun W hW hB => ?_⟩
  have d0a := (World.cell?_of_block (a := ⟨b, 0, none⟩) (hW _ hb)).trans c0a
  have d0b := (World.cell?_of_block (a := ⟨b, 1, none⟩) (hW _ hb)).trans c0b
  have H0 := Lib.hid (h0.at hW hB)
  have d1a := (World.cell?_of_block (a := ⟨b, 4, none⟩) (hW _ hb)).trans c1a
  have d1b := (World.cell?_of_block (a := ⟨b, 5, none⟩) (hW _ hb)).trans c1b
  have H1 := Lib.hid (h1.at hW hB)
  have lt0 := ltOf hS hW _ hb
  have lu0 : b < W.heap.size + 1 := by omega
  have HB := Lib.hid hB
  have Z0 := Lib.hid (show Below W.heap.size W W from Below.refl _ _)
  clear hW hB c0a c0b h0 c1a c1b h1
  go_enter Try.func40, Try.ntmps40
  go_wp2_with fail
  refine (H0.out _ (by repeat (first | with_reducible exact Z0.out | (with_reducible refine Below.alloc ?_ (by have := Below.size Z0.out; simp; try omega) _)))).mono ?_
  rintro e w1 ⟨rfl, y1, y2⟩
  have HF := Lib.hid (show SKP B k0 W (.returned (.bool k0)) w1 from SKP.trans (by repeat (first | with_reducible exact Z0.out | (with_reducible refine Below.alloc ?_ (by have := Below.size Z0.out; simp; try omega) _))) HB.out ⟨rfl, y1, y2⟩)
  clear y1 y2
  cases k0
  · have Z1 := Lib.hid (HF.out.2.2 rfl)
    have nd1a := kept Z1.out d1a
    have nd1b := kept Z1.out d1b
    have nl00 := Nat.lt_of_lt_of_le lt0 Z1.out.size
    clear HF
    go_wp2_with fail
    refine (H1.out _ (by repeat (first | with_reducible exact Z1.out | (with_reducible refine Below.alloc ?_ (by have := Below.size Z1.out; simp; try omega) _)))).mono ?_
    rintro e w2 ⟨rfl, y1, y2⟩
    have HF := Lib.hid (show SKP B k1 W (.returned (.bool k1)) w2 from SKP.trans (by repeat (first | with_reducible exact Z1.out | (with_reducible refine Below.alloc ?_ (by have := Below.size Z1.out; simp; try omega) _))) HB.out ⟨rfl, y1, y2⟩)
    clear y1 y2
    go_wp2_with fail
    go_ret
    exact HF.out.eq (by first | rfl | simp)
  · go_wp2_with fail
    go_ret
    exact HF.out.eq (by first | rfl | simp)

set_option maxRecDepth 100000 in
set_option maxHeartbeats 2000000 in
theorem skIf1 {B : Nat} {S : Nat → Prop} {w : World} {ty0 q0 : Nat} {l0 : Int} {k0 : Bool} (b : Nat) (l : Int) (hS : ∀ b, S b → B ≤ b ∧ b < w.heap.size) (hb : S b)  (c0a : w.cell? ⟨b, 2, none⟩ = some (.iface ty0 (.pointer (some ⟨q0, 0, none⟩)))) (c0b : w.cell? ⟨b, 3, none⟩ = some (.int .i32 l0)) (h0 : SK B S w (.iface ty0 (.pointer (some ⟨q0, 0, none⟩))) l0 k0) (x0 : w.cell? ⟨b, 4, none⟩ = some (.nilIface)) : SK B S w (.iface 134 (.pointer (some ⟨b, 0, none⟩))) l (k0) := by
  refine ⟨hS, fun W hW hB => ?_⟩
  have d0a := (World.cell?_of_block (a := ⟨b, 2, none⟩) (hW _ hb)).trans c0a
  have d0b := (World.cell?_of_block (a := ⟨b, 3, none⟩) (hW _ hb)).trans c0b
  have H0 := Lib.hid (h0.at hW hB)
  have z0 := (World.cell?_of_block (a := ⟨b, 4, none⟩) (hW _ hb)).trans x0
  have lt0 := ltOf hS hW _ hb
  have lu0 : b < W.heap.size + 1 := by omega
  have HB := Lib.hid hB
  have Z0 := Lib.hid (show Below W.heap.size W W from Below.refl _ _)
  clear hW hB c0a c0b h0 x0
  go_enter Try.func40, Try.ntmps40
  go_wp2_with fail
  refine (H0.out _ (by repeat (first | with_reducible exact Z0.out | (with_reducible refine Below.alloc ?_ (by have := Below.size Z0.out; simp; try omega) _)))).mono ?_
  rintro e w1 ⟨rfl, y1, y2⟩
  have HF := Lib.hid (show SKP B k0 W (.returned (.bool k0)) w1 from SKP.trans (by repeat (first | with_reducible exact Z0.out | (with_reducible refine Below.alloc ?_ (by have := Below.size Z0.out; simp; try omega) _))) HB.out ⟨rfl, y1, y2⟩)
  clear y1 y2
  cases k0
  · have Z1 := Lib.hid (HF.out.2.2 rfl)
    have mz0 := kept Z1.out z0
    have ml00 := Nat.lt_of_lt_of_le lt0 Z1.out.size
    clear Z1
    go_wp2_with fail
    go_ret
    exact HF.out.eq (by first | rfl | simp)
  · go_wp2_with fail
    go_ret
    exact HF.out.eq (by first | rfl | simp)

set_option maxRecDepth 100000 in
set_option maxHeartbeats 2000000 in
theorem skIf2 {B : Nat} {S : Nat → Prop} {w : World} {ty0 q0 : Nat} {l0 : Int} {k0 : Bool} {ty1 q1 : Nat} {l1 : Int} {k1 : Bool} (b : Nat) (l : Int) (hS : ∀ b, S b → B ≤ b ∧ b < w.heap.size) (hb : S b)  (c0a : w.cell? ⟨b, 2, none⟩ = some (.iface ty0 (.pointer (some ⟨q0, 0, none⟩)))) (c0b : w.cell? ⟨b, 3, none⟩ = some (.int .i32 l0)) (h0 : SK B S w (.iface ty0 (.pointer (some ⟨q0, 0, none⟩))) l0 k0) (c1a : w.cell? ⟨b, 4, none⟩ = some (.iface ty1 (.pointer (some ⟨q1, 0, none⟩)))) (c1b : w.cell? ⟨b, 5, none⟩ = some (.int .i32 l1)) (h1 : SK B S w (.iface ty1 (.pointer (some ⟨q1, 0, none⟩))) l1 k1) : SK B S w (.iface 134 (.pointer (some ⟨b, 0, none⟩))) l (k0 || k1) := by
  refine ⟨hS, fun W hW hB => ?_⟩
  have d0a := (World.cell?_of_block (a := ⟨b, 2, none⟩) (hW _ hb)).trans c0a
  have d0b := (World.cell?_of_block (a := ⟨b, 3, none⟩) (hW _ hb)).trans c0b
  have H0 := Lib.hid (h0.at hW hB)
  have d1a := (World.cell?_of_block (a := ⟨b, 4, none⟩) (hW _ hb)).trans c1a
  have d1b := (World.cell?_of_block (a := ⟨b, 5, none⟩) (hW _ hb)).trans c1b
  have H1 := Lib.hid (h1.at hW hB)
  have lt0 := ltOf hS hW _ hb
  have lu0 : b < W.heap.size + 1 := by omega
  have HB := Lib.hid hB
  have Z0 := Lib.hid (show Below W.heap.size W W from Below.refl _ _)
  clear hW hB c0a c0b h0 c1a c1b h1
  go_enter Try.func40, Try.ntmps40
  go_wp2_with fail
  refine (H0.out _ (by repeat (first | with_reducible exact Z0.out | (with_reducible refine Below.alloc ?_ (by have := Below.size Z0.out; simp; try omega) _)))).mono ?_
  rintro e w1 ⟨rfl, y1, y2⟩
  have HF := Lib.hid (show SKP B k0 W (.returned (.bool k0)) w1 from SKP.trans (by repeat (first | with_reducible exact Z0.out | (with_reducible refine Below.alloc ?_ (by have := Below.size Z0.out; simp; try omega) _))) HB.out ⟨rfl, y1, y2⟩)
  clear y1 y2
  cases k0
  · have Z1 := Lib.hid (HF.out.2.2 rfl)
    have nd1a := kept Z1.out d1a
    have nd1b := kept Z1.out d1b
    have nl00 := Nat.lt_of_lt_of_le lt0 Z1.out.size
    clear HF
    go_wp2_with fail
    refine (H1.out _ (by repeat (first | with_reducible exact Z1.out | (with_reducible refine Below.alloc ?_ (by have := Below.size Z1.out; simp; try omega) _)))).mono ?_
    rintro e w2 ⟨rfl, y1, y2⟩
    have HF := Lib.hid (show SKP B k1 W (.returned (.bool k1)) w2 from SKP.trans (by repeat (first | with_reducible exact Z1.out | (with_reducible refine Below.alloc ?_ (by have := Below.size Z1.out; simp; try omega) _))) HB.out ⟨rfl, y1, y2⟩)
    clear y1 y2
    go_wp2_with fail
    go_ret
    exact HF.out.eq (by first | rfl | simp)
  · go_wp2_with fail
    go_ret
    exact HF.out.eq (by first | rfl | simp)

set_option maxRecDepth 100000 in
set_option maxHeartbeats 2000000 in
theorem skFor1 {B : Nat} {S : Nat → Prop} {w : World} {ty0 q0 : Nat} {l0 : Int} {k0 : Bool} (b : Nat) (l : Int) (hS : ∀ b, S b → B ≤ b ∧ b < w.heap.size) (hb : S b)  (c0a : w.cell? ⟨b, 6, none⟩ = some (.iface ty0 (.pointer (some ⟨q0, 0, none⟩)))) (c0b : w.cell? ⟨b, 7, none⟩ = some (.int .i32 l0)) (h0 : SK B S w (.iface ty0 (.pointer (some ⟨q0, 0, none⟩))) l0 k0) (x0 : w.cell? ⟨b, 0, none⟩ = some (.nilIface)) : SK B S w (.iface 143 (.pointer (some ⟨b, 0, none⟩))) l (k0) := by
  refine ⟨hS, fun W hW hB => ?_⟩
  have d0a := (World.cell?_of_block (a := ⟨b, 6, none⟩) (hW _ hb)).trans c0a
  have d0b := (World.cell?_of_block (a := ⟨b, 7, none⟩) (hW _ hb)).trans c0b
  have H0 := Lib.hid (h0.at hW hB)
  have z0 := (World.cell?_of_block (a := ⟨b, 0, none⟩) (hW _ hb)).trans x0
  have lt0 := ltOf hS hW _ hb
  have lu0 : b < W.heap.size + 1 := by omega
  have HB := Lib.hid hB
  have Z0 := Lib.hid (show Below W.heap.size W W from Below.refl _ _)
  clear hW hB c0a c0b h0 x0
  go_enter Try.func40, Try.ntmps40
  go_wp2_with fail
  refine (H0.out _ (by repeat (first | with_reducible exact Z0.out | (with_reducible refine Below.alloc ?_ (by have := Below.size Z0.out; simp; try omega) _)))).mono ?_
  rintro e w1 ⟨rfl, y1, y2⟩
  have HF := Lib.hid (show SKP B k0 W (.returned (.bool k0)) w1 from SKP.trans (by repeat (first | with_reducible exact Z0.out | (with_reducible refine Below.alloc ?_ (by have := Below.size Z0.out; simp; try omega) _))) HB.out ⟨rfl, y1, y2⟩)
  clear y1 y2
  go_wp2_with fail
  go_ret
  exact HF.out.eq (by first | rfl | simp)

set_option maxRecDepth 100000 in
set_option maxHeartbeats 2000000 in
theorem skFor2 {B : Nat} {S : Nat → Prop} {w : World} {ty0 q0 : Nat} {l0 : Int} {k0 : Bool} {ty1 q1 : Nat} {l1 : Int} {k1 : Bool} (b : Nat) (l : Int) (hS : ∀ b, S b → B ≤ b ∧ b < w.heap.size) (hb : S b)  (c0a : w.cell? ⟨b, 0, none⟩ = some (.iface ty0 (.pointer (some ⟨q0, 0, none⟩)))) (c0b : w.cell? ⟨b, 1, none⟩ = some (.int .i32 l0)) (h0 : SK B S w (.iface ty0 (.pointer (some ⟨q0, 0, none⟩))) l0 k0) (c1a : w.cell? ⟨b, 6, none⟩ = some (.iface ty1 (.pointer (some ⟨q1, 0, none⟩)))) (c1b : w.cell? ⟨b, 7, none⟩ = some (.int .i32 l1)) (h1 : SK B S w (.iface ty1 (.pointer (some ⟨q1, 0, none⟩))) l1 k1) : SK B S w (.iface 143 (.pointer (some ⟨b, 0, none⟩))) l (k0 || k1) := by
  refine ⟨hS, fun W hW hB => ?_⟩
  have d0a := (World.cell?_of_block (a := ⟨b, 0, none⟩) (hW _ hb)).trans c0a
  have d0b := (World.cell?_of_block (a := ⟨b, 1, none⟩) (hW _ hb)).trans c0b
  have H0 := Lib.hid (h0.at hW hB)
  have d1a := (World.cell?_of_block (a := ⟨b, 6, none⟩) (hW _ hb)).trans c1a
  have d1b := (World.cell?_of_block (a := ⟨b, 7, none⟩) (hW _ hb)).trans c1b
  have H1 := Lib.hid (h1.at hW hB)
  have lt0 := ltOf hS hW _ hb
  have lu0 : b < W.heap.size + 1 := by omega
  have HB := Lib.hid hB
  have Z0 := Lib.hid (show Below W.heap.size W W from Below.refl _ _)
  clear hW hB c0a c0b h0 c1a c1b h1
  go_enter Try.func40, Try.ntmps40
  go_wp2_with fail
  refine (H0.out _ (by repeat (first | with_reducible exact Z0.out | (with_reducible refine Below.alloc ?_ (by have := Below.size Z0.out; simp; try omega) _)))).mono ?_
  rintro e w1 ⟨rfl, y1, y2⟩
  have HF := Lib.hid (show SKP B k0 W (.returned (.bool k0)) w1 from SKP.trans (by repeat (first | with_reducible exact Z0.out | (with_reducible refine Below.alloc ?_ (by have := Below.size Z0.out; simp; try omega) _))) HB.out ⟨rfl, y1, y2⟩)
  clear y1 y2
  cases k0
  · have Z1 := Lib.hid (HF.out.2.2 rfl)
    have nd1a := kept Z1.out d1a
    have nd1b := kept Z1.out d1b
    have nl00 := Nat.lt_of_lt_of_le lt0 Z1.out.size
    clear HF
    go_wp2_with fail
    refine (H1.out _ (by repeat (first | with_reducible exact Z1.out | (with_reducible refine Below.alloc ?_ (by have := Below.size Z1.out; simp; try omega) _)))).mono ?_
    rintro e w2 ⟨rfl, y1, y2⟩
    have HF := Lib.hid (show SKP B k1 W (.returned (.bool k1)) w2 from SKP.trans (by repeat (first | with_reducible exact Z1.out | (with_reducible refine Below.alloc ?_ (by have := Below.size Z1.out; simp; try omega) _))) HB.out ⟨rfl, y1, y2⟩)
    clear y1 y2
    go_wp2_with fail
    go_ret
    exact HF.out.eq (by first | rfl | simp)
  · go_wp2_with fail
    go_ret
    exact HF.out.eq (by first | rfl | simp)

set_option maxRecDepth 100000 in
set_option maxHeartbeats 2000000 in
theorem skTry00 {B : Nat} {S : Nat → Prop} {w : World} {a0 : Option Addr} {n0 cp0 : Nat} {k0 : Bool} (b : Nat) (l : Int) (hS : ∀ b, S b → B ≤ b ∧ b < w.heap.size) (hb : S b)  (c0a : w.cell? ⟨b, 2, none⟩ = some (.slice a0 n0 cp0)) (h0 : KL B S w (.slice a0 n0 cp0) k0) (x0 : w.cell? ⟨b, 0, none⟩ = some (.pointer none)) (x1 : w.cell? ⟨b, 1, none⟩ = some (.pointer none)) : SK B S w (.iface 125 (.pointer (some ⟨b, 0, none⟩))) l (k0) := by
  refine ⟨hS, fun W hW hB => ?_⟩
  have d0a := (World.cell?_of_block (a := ⟨b, 2, none⟩) (hW _ hb)).trans c0a
  have H0 := Lib.hid (h0.at hW hB)
  have z0 := (World.cell?_of_block (a := ⟨b, 0, none⟩) (hW _ hb)).trans x0
  have z1 := (World.cell?_of_block (a := ⟨b, 1, none⟩) (hW _ hb)).trans x1
  have lt0 := ltOf hS hW _ hb
  have lu0 : b < W.heap.size + 1 := by omega
  have HB := Lib.hid hB
  have Z0 := Lib.hid (show Below W.heap.size W W from Below.refl _ _)
  clear hW hB c0a h0 x0 x1
  go_enter Try.func40, Try.ntmps40
  go_wp2_with fail
  refine (H0.out _ (by repeat (first | with_reducible exact Z0.out | (with_reducible refine Below.alloc ?_ (by have := Below.size Z0.out; simp; try omega) _)))).mono ?_
  rintro e w1 ⟨rfl, y1, y2⟩
  have HF := Lib.hid (show SKP B k0 W (.returned (.bool k0)) w1 from SKP.trans (by repeat (first | with_reducible exact Z0.out | (with_reducible refine Below.alloc ?_ (by have := Below.size Z0.out; simp; try omega) _))) HB.out ⟨rfl, y1, y2⟩)
  clear y1 y2
  cases k0
  · have Z1 := Lib.hid (HF.out.2.2 rfl)
    have mz0 := kept Z1.out z0
    have mz1 := kept Z1.out z1
    have ml00 := Nat.lt_of_lt_of_le lt0 Z1.out.size
    clear Z1
    go_wp2_with fail
    go_ret
    exact HF.out.eq (by first | rfl | simp)
  · go_wp2_with fail
    go_ret
    exact HF.out.eq (by first | rfl | simp)

set_option maxRecDepth 100000 in
set_option maxHeartbeats 2000000 in
theorem skTry10 {B : Nat} {S : Nat → Prop} {w : World} {a0 : Option Addr} {n0 cp0 : Nat} {k0 : Bool} {a1 : Option Addr} {n1 cp1 : Nat} {k1 : Bool} (b b1 : Nat) (l : Int) (hS : ∀ b, S b → B ≤ b ∧ b < w.heap.size) (hb : S b) (hb1 : S b1)  (c0a : w.cell? ⟨b, 2, none⟩ = some (.slice a0 n0 cp0)) (h0 : KL B S w (.slice a0 n0 cp0) k0) (c1a : w.cell? ⟨b1, 2, none⟩ = some (.slice a1 n1 cp1)) (h1 : KL B S w (.slice a1 n1 cp1) k1) (x0 : w.cell? ⟨b, 0, none⟩ = some (.pointer (some ⟨b1, 0, none⟩))) (x1 : w.cell? ⟨b, 1, none⟩ = some (.pointer none)) : SK B S w (.iface 125 (.pointer (some ⟨b, 0, none⟩))) l (k0 || k1) := by
  refine ⟨hS, fun W hW hB => ?_⟩
  have d0a := (World.cell?_of_block (a := ⟨b, 2, none⟩) (hW _ hb)).trans c0a
  have H0 := Lib.hid (h0.at hW hB)
  have d1a := (World.cell?_of_block (a := ⟨b1, 2, none⟩) (hW _ hb1)).trans c1a
  have H1 := Lib.hid (h1.at hW hB)
  have z0 := (World.cell?_of_block (a := ⟨b, 0, none⟩) (hW _ hb)).trans x0
  have z1 := (World.cell?_of_block (a := ⟨b, 1, none⟩) (hW _ hb)).trans x1
  have lt0 := ltOf hS hW _ hb
  have lu0 : b < W.heap.size + 1 := by omega
  have lt1 := ltOf hS hW _ hb1
  have lu1 : b1 < W.heap.size + 1 := by omega
  have HB := Lib.hid hB
  have Z0 := Lib.hid (show Below W.heap.size W W from Below.refl _ _)
  clear hW hB c0a h0 c1a h1 x0 x1
  go_enter Try.func40, Try.ntmps40
  go_wp2_with fail
  refine (H0.out _ (by repeat (first | with_reducible exact Z0.out | (with_reducible refine Below.alloc ?_ (by have := Below.size Z0.out; simp; try omega) _)))).mono ?_
  rintro e w1 ⟨rfl, y1, y2⟩
  have HF := Lib.hid (show SKP B k0 W (.returned (.bool k0)) w1 from SKP.trans (by repeat (first | with_reducible exact Z0.out | (with_reducible refine Below.alloc ?_ (by have := Below.size Z0.out; simp; try omega) _))) HB.out ⟨rfl, y1, y2⟩)
  clear y1 y2
  cases k0
  · have Z1 := Lib.hid (HF.out.2.2 rfl)
    have nd1a := kept Z1.out d1a
    have nz0 := kept Z1.out z0
    have nz1 := kept Z1.out z1
    have nl00 := Nat.lt_of_lt_of_le lt0 Z1.out.size
    have nl10 := Nat.lt_of_lt_of_le lt1 Z1.out.size
    clear HF
    go_wp2_with fail
    refine (H1.out _ (by repeat (first | with_reducible exact Z1.out | (with_reducible refine Below.alloc ?_ (by have := Below.size Z1.out; simp; try omega) _)))).mono ?_
    rintro e w2 ⟨rfl, y1, y2⟩
    have HF := Lib.hid (show SKP B k1 W (.returned (.bool k1)) w2 from SKP.trans (by repeat (first | with_reducible exact Z1.out | (with_reducible refine Below.alloc ?_ (by have := Below.size Z1.out; simp; try omega) _))) HB.out ⟨rfl, y1, y2⟩)
    clear y1 y2
    cases k1
    · have Z2 := Lib.hid (HF.out.2.2 rfl)
      have mz0 := kept Z2.out z0
      have mz1 := kept Z2.out z1
      have ml01 := Nat.lt_of_lt_of_le lt0 Z2.out.size
      have ml11 := Nat.lt_of_lt_of_le lt1 Z2.out.size
      clear Z2
      go_wp2_with fail
      go_ret
      exact HF.out.eq (by first | rfl | simp)
    · go_wp2_with fail
      go_ret
      exact HF.out.eq (by first | rfl | simp)
  · go_wp2_with fail
    go_ret
    exact HF.out.eq (by first | rfl | simp)

set_option maxRecDepth 100000 in
set_option maxHeartbeats 2000000 in
theorem skTry01 {B : Nat} {S : Nat → Prop} {w : World} {a0 : Option Addr} {n0 cp0 : Nat} {k0 : Bool} {a1 : Option Addr} {n1 cp1 : Nat} {k1 : Bool} (b b2 : Nat) (l : Int) (hS : ∀ b, S b → B ≤ b ∧ b < w.heap.size) (hb : S b) (hb2 : S b2)  (c0a : w.cell? ⟨b, 2, none⟩ = some (.slice a0 n0 cp0)) (h0 : KL B S w (.slice a0 n0 cp0) k0) (c1a : w.cell? ⟨b2, 0, none⟩ = some (.slice a1 n1 cp1)) (h1 : KL B S w (.slice a1 n1 cp1) k1) (x0 : w.cell? ⟨b, 0, none⟩ = some (.pointer none)) (x1 : w.cell? ⟨b, 1, none⟩ = some (.pointer (some ⟨b2, 0, none⟩))) : SK B S w (.iface 125 (.pointer (some ⟨b, 0, none⟩))) l (k0 || k1) := by
  refine ⟨hS, fun W hW hB => ?_⟩
  have d0a := (World.cell?_of_block (a := ⟨b, 2, none⟩) (hW _ hb)).trans c0a
  have H0 := Lib.hid (h0.at hW hB)
  have d1a := (World.cell?_of_block (a := ⟨b2, 0, none⟩) (hW _ hb2)).trans c1a
  have H1 := Lib.hid (h1.at hW hB)
  have z0 := (World.cell?_of_block (a := ⟨b, 0, none⟩) (hW _ hb)).trans x0
  have z1 := (World.cell?_of_block (a := ⟨b, 1, none⟩) (hW _ hb)).trans x1
  have lt0 := ltOf hS hW _ hb
  have lu0 : b < W.heap.size + 1 := by omega
  have lt2 := ltOf hS hW _ hb2
  have lu2 : b2 < W.heap.size + 1 := by omega
  have HB := Lib.hid hB
  have Z0 := Lib.hid (show Below W.heap.size W W from Below.refl _ _)
  clear hW hB c0a h0 c1a h1 x0 x1
  go_enter Try.func40, Try.ntmps40
  go_wp2_with fail
  refine (H0.out _ (by repeat (first | with_reducible exact Z0.out | (with_reducible refine Below.alloc ?_ (by have := Below.size Z0.out; simp; try omega) _)))).mono ?_
  rintro e w1 ⟨rfl, y1, y2⟩
  have HF := Lib.hid (show SKP B k0 W (.returned (.bool k0)) w1 from SKP.trans (by repeat (first | with_reducible exact Z0.out | (with_reducible refine Below.alloc ?_ (by have := Below.size Z0.out; simp; try omega) _))) HB.out ⟨rfl, y1, y2⟩)
  clear y1 y2
  cases k0
  · have Z1 := Lib.hid (HF.out.2.2 rfl)
    have nd1a := kept Z1.out d1a
    have nz0 := kept Z1.out z0
    have nz1 := kept Z1.out z1
    have nl00 := Nat.lt_of_lt_of_le lt0 Z1.out.size
    have nl20 := Nat.lt_of_lt_of_le lt2 Z1.out.size
    clear HF
    go_wp2_with fail
    refine (H1.out _ (by repeat (first | with_reducible exact Z1.out | (with_reducible refine Below.alloc ?_ (by have := Below.size Z1.out; simp; try omega) _)))).mono ?_
    rintro e w2 ⟨rfl, y1, y2⟩
    have HF := Lib.hid (show SKP B k1 W (.returned (.bool k1)) w2 from SKP.trans (by repeat (first | with_reducible exact Z1.out | (with_reducible refine Below.alloc ?_ (by have := Below.size Z1.out; simp; try omega) _))) HB.out ⟨rfl, y1, y2⟩)
    clear y1 y2
    go_wp2_with fail
    go_ret
    exact HF.out.eq (by first | rfl | simp)
  · go_wp2_with fail
    go_ret
    exact HF.out.eq (by first | rfl | simp)

set_option maxRecDepth 100000 in
set_option maxHeartbeats 2000000 in
theorem skTry11 {B : Nat} {S : Nat → Prop} {w : World} {a0 : Option Addr} {n0 cp0 : Nat} {k0 : Bool} {a1 : Option Addr} {n1 cp1 : Nat} {k1 : Bool} {a2 : Option Addr} {n2 cp2 : Nat} {k2 : Bool} (b b1 b2 : Nat) (l : Int) (hS : ∀ b, S b → B ≤ b ∧ b < w.heap.size) (hb : S b) (hb1 : S b1) (hb2 : S b2)  (c0a : w.cell? ⟨b, 2, none⟩ = some (.slice a0 n0 cp0)) (h0 : KL B S w (.slice a0 n0 cp0) k0) (c1a : w.cell? ⟨b1, 2, none⟩ = some (.slice a1 n1 cp1)) (h1 : KL B S w (.slice a1 n1 cp1) k1) (c2a : w.cell? ⟨b2, 0, none⟩ = some (.slice a2 n2 cp2)) (h2 : KL B S w (.slice a2 n2 cp2) k2) (x0 : w.cell? ⟨b, 0, none⟩ = some (.pointer (some ⟨b1, 0, none⟩))) (x1 : w.cell? ⟨b, 1, none⟩ = some (.pointer (some ⟨b2, 0, none⟩))) : SK B S w (.iface 125 (.pointer (some ⟨b, 0, none⟩))) l (k0 || k1 || k2) := by
  refine ⟨hS, fun W hW hB => ?_⟩
  have d0a := (World.cell?_of_block (a := ⟨b, 2, none⟩) (hW _ hb)).trans c0a
  have H0 := Lib.hid (h0.at hW hB)
  have d1a := (World.cell?_of_block (a := ⟨b1, 2, none⟩) (hW _ hb1)).trans c1a
  have H1 := Lib.hid (h1.at hW hB)
  have d2a := (World.cell?_of_block (a := ⟨b2, 0, none⟩) (hW _ hb2)).trans c2a
  have H2 := Lib.hid (h2.at hW hB)
  have z0 := (World.cell?_of_block (a := ⟨b, 0, none⟩) (hW _ hb)).trans x0
  have z1 := (World.cell?_of_block (a := ⟨b, 1, none⟩) (hW _ hb)).trans x1
  have lt0 := ltOf hS hW _ hb
  have lu0 : b < W.heap.size + 1 := by omega
  have lt1 := ltOf hS hW _ hb1
  have lu1 : b1 < W.heap.size + 1 := by omega
  have lt2 := ltOf hS hW _ hb2
  have lu2 : b2 < W.heap.size + 1 := by omega
  have HB := Lib.hid hB
  have Z0 := Lib.hid (show Below W.heap.size W W from Below.refl _ _)
  clear hW hB c0a h0 c1a h1 c2a h2 x0 x1
  go_enter Try.func40, Try.ntmps40
  go_wp2_with fail
  refine (H0.out _ (by repeat (first | with_reducible exact Z0.out | (with_reducible refine Below.alloc ?_ (by have := Below.size Z0.out; simp; try omega) _)))).mono ?_
  rintro e w1 ⟨rfl, y1, y2⟩
  have HF := Lib.hid (show SKP B k0 W (.returned (.bool k0)) w1 from SKP.trans (by repeat (first | with_reducible exact Z0.out | (with_reducible refine Below.alloc ?_ (by have := Below.size Z0.out; simp; try omega) _))) HB.out ⟨rfl, y1, y2⟩)
  clear y1 y2
  cases k0
  · have Z1 := Lib.hid (HF.out.2.2 rfl)
    have nd1a := kept Z1.out d1a
    have nd2a := kept Z1.out d2a
    have nz0 := kept Z1.out z0
    have nz1 := kept Z1.out z1
    have nl00 := Nat.lt_of_lt_of_le lt0 Z1.out.size
    have nl10 := Nat.lt_of_lt_of_le lt1 Z1.out.size
    have nl20 := Nat.lt_of_lt_of_le lt2 Z1.out.size
    clear HF
    go_wp2_with fail
    refine (H1.out _ (by repeat (first | with_reducible exact Z1.out | (with_reducible refine Below.alloc ?_ (by have := Below.size Z1.out; simp; try omega) _)))).mono ?_
    rintro e w2 ⟨rfl, y1, y2⟩
    have HF := Lib.hid (show SKP B k1 W (.returned (.bool k1)) w2 from SKP.trans (by repeat (first | with_reducible exact Z1.out | (with_reducible refine Below.alloc ?_ (by have := Below.size Z1.out; simp; try omega) _))) HB.out ⟨rfl, y1, y2⟩)
    clear y1 y2
    cases k1
    · have Z2 := Lib.hid (HF.out.2.2 rfl)
      have nd2a := kept Z2.out d2a
      have nz0 := kept Z2.out z0
      have nz1 := kept Z2.out z1
      have nl01 := Nat.lt_of_lt_of_le lt0 Z2.out.size
      have nl11 := Nat.lt_of_lt_of_le lt1 Z2.out.size
      have nl21 := Nat.lt_of_lt_of_le lt2 Z2.out.size
      clear HF
      go_wp2_with fail
      refine (H2.out _ (by repeat (first | with_reducible exact Z2.out | (with_reducible refine Below.alloc ?_ (by have := Below.size Z2.out; simp; try omega) _)))).mono ?_
      rintro e w3 ⟨rfl, y1, y2⟩
      have HF := Lib.hid (show SKP B k2 W (.returned (.bool k2)) w3 from SKP.trans (by repeat (first | with_reducible exact Z2.out | (with_reducible refine Below.alloc ?_ (by have := Below.size Z2.out; simp; try omega) _))) HB.out ⟨rfl, y1, y2⟩)
      clear y1 y2
      go_wp2_with fail
      go_ret
      exact HF.out.eq (by first | rfl | simp)
    · go_wp2_with fail
      go_ret
      exact HF.out.eq (by first | rfl | simp)
  · go_wp2_with fail
    go_ret
    exact HF.out.eq (by first | rfl | simp)
end Go.Proofs.Ytppcfibhpgjnoaa
