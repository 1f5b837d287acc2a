/- Proved here: contracts of MaybeSimplifyNot and Not on the shapes that the laws of this seat build (a binary expression of two nodes, an identifier, the leaves). Conditions: the node's cells, as stated. -/
import Derived.Test.YtonhekaakddneaaRRRBase
import Derived.WalkKit
import Derived.WalkSpells
import Derived.WalkLawsBesides
import Derived.Lib.Hide
import Derived.Deep.RegionWith
import Derived.Deep.RegionHeld3
namespace Go.Proofs.YtonhekaakddneaaRRR
open Go.RowKit
set_option linter.unusedSimpArgs false
set_option linter.unusedVariables false

def Bin (w : World) (b : Nat) (L : Value) (l : Int) (R : Value) (r : Int) (op : Int) : Prop :=
  w.cell? ⟨b, 0, none⟩ = some L ∧ w.cell? ⟨b, 1, none⟩ = some (.int .i32 l) ∧ w.cell? ⟨b, 2, none⟩ = some R ∧ w.cell? ⟨b, 3, none⟩ = some (.int .i32 r) ∧ w.cell? ⟨b, 4, none⟩ = some (.int .u8 op)
def IsBin (L : Value) (l : Int) (R : Value) (r : Int) (op n : Int) (w : World) (e : Ending) (w' : World) : Prop :=
  ∃ b, e = .returned (.tuple #[.agg #[.iface 68 (.pointer (some ⟨b, 0, none⟩)), .int .i32 n], .bool true]) ∧ Bin w' b L l R r op ∧ w.heap.size ≤ b ∧ Below w.heap.size w w'
def Un (w : World) (b : Nat) (V : Value) (v : Int) (op : Int) : Prop :=
  w.cell? ⟨b, 0, none⟩ = some V ∧ w.cell? ⟨b, 1, none⟩ = some (.int .i32 v) ∧ w.cell? ⟨b, 2, none⟩ = some (.int .u8 op)
def IsUn (V : Value) (n : Int) (w : World) (e : Ending) (w' : World) : Prop :=
  ∃ b, e = .returned (.agg #[.iface 57 (.pointer (some ⟨b, 0, none⟩)), .int .i32 n]) ∧ Un w' b V n 3 ∧ w.heap.size ≤ b ∧ Below w.heap.size w w'
def IsComma (L : Value) (l : Int) (R : Value) (r n : Int) (w : World) (e : Ending) (w' : World) : Prop :=
  ∃ b u, e = .returned (.tuple #[.agg #[.iface 68 (.pointer (some ⟨b, 0, none⟩)), .int .i32 n], .bool true]) ∧ Bin w' b L l (.iface 57 (.pointer (some ⟨u, 0, none⟩))) r 36 ∧ Un w' u R r 3 ∧ w.heap.size ≤ b ∧ w.heap.size ≤ u ∧ Below w.heap.size w w'
def NoSimp (w : World) (e : Ending) (w' : World) : Prop :=
  e = .returned (.tuple #[.agg #[.nilIface, .int .i32 0], .bool false]) ∧ Below w.heap.size w w'

set_option maxRecDepth 100000 in
set_option maxHeartbeats 1000000 in
theorem msn_bin26 (b tl tr : Nat) (vl vr : Value) (l r n : Int) (w : World) (h : Bin w b (.iface tl vl) l (.iface tr vr) r 26) :
    Calls Try.prog 23 #[.agg #[.iface 68 (.pointer (some ⟨b, 0, none⟩)), .int .i32 n]] w (IsBin (.iface tl vl) l (.iface tr vr) r 27 n w) := by
  obtain ⟨h0, h1, h2, h3, h4⟩ := h
  have hlt : b < w.heap.size := World.block_lt_of_cell? _ _ h0
  go_enter Try.func23, Try.ntmps23
  go_wp2_with fail
  go_region
  go_wp2_with fail
  exact bodyPost_ret (v := .tuple #[.agg #[.iface 68 (.pointer (some ⟨w.heap.size + 2, 0, none⟩)), .int .i32 n], .bool true]) (by simp [results, Try.results23, go_sem]) rfl ⟨_, rfl, ⟨by simp [go_sem], by simp [go_sem], by simp [go_sem], by simp [go_sem], by simp [go_sem]⟩, by simp, (by repeat (first | exact Below.refl _ _ | apply Below.drew | (refine Below.alloc ?_ (by simp; try omega) _) | (refine Below.setCell ?_ (by simp; try omega) _)))⟩

set_option maxRecDepth 100000 in
set_option maxHeartbeats 1000000 in
theorem msn_bin27 (b tl tr : Nat) (vl vr : Value) (l r n : Int) (w : World) (h : Bin w b (.iface tl vl) l (.iface tr vr) r 27) :
    Calls Try.prog 23 #[.agg #[.iface 68 (.pointer (some ⟨b, 0, none⟩)), .int .i32 n]] w (IsBin (.iface tl vl) l (.iface tr vr) r 26 n w) := by
  obtain ⟨h0, h1, h2, h3, h4⟩ := h
  have hlt : b < w.heap.size := World.block_lt_of_cell? _ _ h0
  go_enter Try.func23, Try.ntmps23
  go_wp2_with fail
  go_region
  go_wp2_with fail
  exact bodyPost_ret (v := .tuple #[.agg #[.iface 68 (.pointer (some ⟨w.heap.size + 2, 0, none⟩)), .int .i32 n], .bool true]) (by simp [results, Try.results23, go_sem]) rfl ⟨_, rfl, ⟨by simp [go_sem], by simp [go_sem], by simp [go_sem], by simp [go_sem], by simp [go_sem]⟩, by simp, (by repeat (first | exact Below.refl _ _ | apply Below.drew | (refine Below.alloc ?_ (by simp; try omega) _) | (refine Below.setCell ?_ (by simp; try omega) _)))⟩

set_option maxRecDepth 100000 in
set_option maxHeartbeats 1000000 in
theorem msn_bin28 (b tl tr : Nat) (vl vr : Value) (l r n : Int) (w : World) (h : Bin w b (.iface tl vl) l (.iface tr vr) r 28) :
    Calls Try.prog 23 #[.agg #[.iface 68 (.pointer (some ⟨b, 0, none⟩)), .int .i32 n]] w (IsBin (.iface tl vl) l (.iface tr vr) r 29 n w) := by
  obtain ⟨h0, h1, h2, h3, h4⟩ := h
  have hlt : b < w.heap.size := World.block_lt_of_cell? _ _ h0
  go_enter Try.func23, Try.ntmps23
  go_wp2_with fail
  go_region
  go_wp2_with fail
  exact bodyPost_ret (v := .tuple #[.agg #[.iface 68 (.pointer (some ⟨w.heap.size + 2, 0, none⟩)), .int .i32 n], .bool true]) (by simp [results, Try.results23, go_sem]) rfl ⟨_, rfl, ⟨by simp [go_sem], by simp [go_sem], by simp [go_sem], by simp [go_sem], by simp [go_sem]⟩, by simp, (by repeat (first | exact Below.refl _ _ | apply Below.drew | (refine Below.alloc ?_ (by simp; try omega) _) | (refine Below.setCell ?_ (by simp; try omega) _)))⟩

set_option maxRecDepth 100000 in
set_option maxHeartbeats 1000000 in
theorem msn_bin29 (b tl tr : Nat) (vl vr : Value) (l r n : Int) (w : World) (h : Bin w b (.iface tl vl) l (.iface tr vr) r 29) :
    Calls Try.prog 23 #[.agg #[.iface 68 (.pointer (some ⟨b, 0, none⟩)), .int .i32 n]] w (IsBin (.iface tl vl) l (.iface tr vr) r 28 n w) := by
  obtain ⟨h0, h1, h2, h3, h4⟩ := h
  have hlt : b < w.heap.size := World.block_lt_of_cell? _ _ h0
  go_enter Try.func23, Try.ntmps23
  go_wp2_with fail
  go_region
  go_wp2_with fail
  exact bodyPost_ret (v := .tuple #[.agg #[.iface 68 (.pointer (some ⟨w.heap.size + 2, 0, none⟩)), .int .i32 n], .bool true]) (by simp [results, Try.results23, go_sem]) rfl ⟨_, rfl, ⟨by simp [go_sem], by simp [go_sem], by simp [go_sem], by simp [go_sem], by simp [go_sem]⟩, by simp, (by repeat (first | exact Below.refl _ _ | apply Below.drew | (refine Below.alloc ?_ (by simp; try omega) _) | (refine Below.setCell ?_ (by simp; try omega) _)))⟩

set_option maxRecDepth 100000 in
set_option maxHeartbeats 1000000 in
theorem msn_ident (v : Value) (n : Int) (w : World) :
    Calls Try.prog 23 #[.agg #[.iface 43 v, .int .i32 n]] w (NoSimp w) := by
  go_enter Try.func23, Try.ntmps23
  go_wp2_with fail
  exact bodyPost_ret (v := .tuple #[.agg #[.nilIface, .int .i32 0], .bool false]) (by simp [results, Try.results23, go_sem]) rfl ⟨rfl, (by repeat (first | exact Below.refl _ _ | apply Below.drew | (refine Below.alloc ?_ (by simp; try omega) _) | (refine Below.setCell ?_ (by simp; try omega) _)))⟩
set_option maxRecDepth 100000 in
set_option maxHeartbeats 1000000 in
theorem not_ident (p : Option Addr) (n : Int) (w : World) :
    Calls Try.prog 15 #[.agg #[.iface 43 (.pointer p), .int .i32 n]] w (IsUn (.iface 43 (.pointer p)) n w) := by
  go_enter Try.func15, Try.ntmps15
  go_wp2_with fail
  refine (msn_ident _ _ _).mono ?_
  rintro e w1 ⟨rfl, hb⟩
  have hz := hb.size
  simp only [World.size_alloc] at hz
  have z0 : w.heap.size < w1.heap.size := by omega
  have z1 : w.heap.size + 1 < w1.heap.size := by omega
  have q0 : w1.cell? ⟨w.heap.size, 0, none⟩ = some (.iface 43 (.pointer p)) := by rw [hb.cell (by simp; try omega)]; simp [go_sem]
  have q1 : w1.cell? ⟨w.heap.size, 1, none⟩ = some (.int .i32 n) := by rw [hb.cell (by simp; try omega)]; simp [go_sem]
  have r0 : w1.cell? ⟨w.heap.size + 1, 0, none⟩ = some .nilIface := by rw [hb.cell (by simp; try omega)]; simp [go_sem]
  have r1 : w1.cell? ⟨w.heap.size + 1, 1, none⟩ = some (.int .i32 0) := by rw [hb.cell (by simp; try omega)]; simp [go_sem]
  have s0 : w1.frozen? ⟨w.heap.size + 1, 0, none⟩ = false := by rw [hb.frozen (by simp; try omega)]; simp [go_sem]
  have s1 : w1.frozen? ⟨w.heap.size + 1, 1, none⟩ = false := by rw [hb.frozen (by simp; try omega)]; simp [go_sem]
  have B : Below w.heap.size w w1 := (((Below.refl _ _).alloc (Nat.le_refl _) _).alloc (by simp) _).trans (hb.mono (by simp; try omega))
  clear hb hz
  go_wp2_with fail
  refine bodyPost_ret (v := .agg #[.iface 57 (.pointer (some ⟨w1.heap.size + 1, 0, none⟩)), .int .i32 n]) (by simp [results, Try.results15, go_sem, *]) rfl ⟨_, rfl, ⟨?_, ?_, ?_⟩, ?_, ?_⟩
  all_goals first | omega | (simp [go_sem, *]; done) | (refine Below.alloc (Below.alloc (Below.setCell (Below.setCell B ?_ _) ?_ _) ?_ _) ?_ _ <;> simp <;> omega)

set_option maxRecDepth 100000 in
set_option maxHeartbeats 2000000 in
theorem msn_comma (b tl : Nat) (vl : Value) (p : Option Addr) (l r n : Int) (w : World) (h : Bin w b (.iface tl vl) l (.iface 43 (.pointer p)) r 36) :
    Calls Try.prog 23 #[.agg #[.iface 68 (.pointer (some ⟨b, 0, none⟩)), .int .i32 n]] w (IsComma (.iface tl vl) l (.iface 43 (.pointer p)) r n w) := by
  obtain ⟨h0, h1, h2, h3, h4⟩ := h
  have hlt : b < w.heap.size := World.block_lt_of_cell? _ _ h0
  go_enter Try.func23, Try.ntmps23
  go_wp2_with fail
  obtain ⟨W, hW⟩ : ∃ W, W = (w.alloc (Obj.cells #[Value.iface 68 (Value.pointer (some ⟨b, 0, none⟩)), Value.int IntKind.i32 n] 28)).alloc (Obj.cells #[Value.nilIface, Value.int IntKind.i32 0] 28) := ⟨_, rfl⟩
  rw [← hW]
  have hz : W.heap.size = w.heap.size + 2 := by rw [hW]; simp
  have q1 : W.cell? ⟨w.heap.size, 1, none⟩ = some (.int .i32 n) := by rw [hW]; simp [go_sem]
  have r0 : W.cell? ⟨w.heap.size + 1, 0, none⟩ = some .nilIface := by rw [hW]; simp [go_sem]
  have r1 : W.cell? ⟨w.heap.size + 1, 1, none⟩ = some (.int .i32 0) := by rw [hW]; simp [go_sem]
  have s0 : W.frozen? ⟨w.heap.size + 1, 0, none⟩ = false := by rw [hW]; simp [go_sem]
  have s1 : W.frozen? ⟨w.heap.size + 1, 1, none⟩ = false := by rw [hW]; simp [go_sem]
  have B : Below w.heap.size w W := by rw [hW]; exact ((Below.refl _ _).alloc (Nat.le_refl _) _).alloc (by simp) _
  have k0 := kept B h0
  have k1 := kept B h1
  have k2 := kept B h2
  have k3 := kept B h3
  clear h0 h1 h2 h3 h4 hW
  have n1 : ¬ b = w.heap.size + 1 := by omega
  have n2 : ¬ b = w.heap.size := by omega
  have Z := Lib.hid hz
  clear hz
  go_region_held3 (fun w' => w'.cell? ⟨w.heap.size, 1, none⟩ = some (.int .i32 n) ∧ w'.cell? ⟨b, 0, none⟩ = some (.iface tl vl) ∧ w'.cell? ⟨b, 1, none⟩ = some (.int .i32 l) ∧ w'.cell? ⟨b, 2, none⟩ = some (.iface 43 (.pointer p)) ∧ w'.cell? ⟨b, 3, none⟩ = some (.int .i32 r)) (repeat' (first | (refine And.intro ?_ ?_) | assumption | apply kAlloc | apply kDrew | (refine kSet ?_ (by omega)))) (first | (go_at_call 15; refine (not_ident _ _ _).mono ?_; rintro e w1 ⟨u, rfl, hu, hub, hb⟩; have e1 := kept hb q1; have e2 := kept hb k0; have e3 := kept hb k1; have e4 := kept hb k2; have e5 := kept hb k3; have e6 := kept hb r0; have e7 := kept hb r1; have e8 := keptF hb r0 s0; have e9 := keptF hb r1 s1; have e10 := Nat.lt_of_lt_of_le (World.block_lt_of_cell? _ _ r0) hb.size; have e11 := Nat.lt_of_lt_of_le (World.block_lt_of_cell? _ _ q1) hb.size; simp only at e10 e11; have e12 := Nat.lt_of_lt_of_le (World.block_lt_of_cell? _ _ k0) hb.size; simp only at e12))
  clear e1 e2 e3 e4 e5
  obtain ⟨u0, u1, u2⟩ := hu
  have hz := Z.out
  have hub' : w.heap.size + 2 ≤ u := by rw [← hz]; exact hub
  have BB : Below w.heap.size w w1 := B.drew.trans (hb.mono B.size)
  clear hub hb Z q1 r0 r1 s0 s1 B k0 k1 k2 k3
  go_wp2_with fail
  refine bodyPost_ret (v := .tuple #[.agg #[.iface 68 (.pointer (some ⟨w1.heap.size, 0, none⟩)), .int .i32 n], .bool true]) (by simp [results, Try.results23, go_sem, *]) rfl ⟨_, u, rfl, ⟨?_, ?_, ?_, ?_, ?_⟩, ⟨kAlloc (kSet (kSet u0 (by omega)) (by omega)), kAlloc (kSet (kSet u1 (by omega)) (by omega)), kAlloc (kSet (kSet u2 (by omega)) (by omega))⟩, by omega, by omega, ?_⟩
  all_goals first | (simp [go_sem, *]; done) | (refine Below.alloc (Below.setCell (Below.setCell BB ?_ _) ?_ _) ?_ _ <;> simp <;> omega)

set_option maxRecDepth 100000 in
set_option maxHeartbeats 1000000 in
theorem msn_binOther (b : Nat) (n op : Int) (w : World) (h4 : w.cell? ⟨b, 4, none⟩ = some (.int .u8 op)) (n1 : (op == 26) = false) (n2 : (op == 27) = false) (n3 : (op == 28) = false) (n4 : (op == 29) = false) (n5 : (op == 36) = false) :
    Calls Try.prog 23 #[.agg #[.iface 68 (.pointer (some ⟨b, 0, none⟩)), .int .i32 n]] w (NoSimp w) := by
  have hlt : b < w.heap.size := World.block_lt_of_cell? _ _ h4
  go_enter Try.func23, Try.ntmps23
  go_wp2_with fail
  exact bodyPost_ret (v := .tuple #[.agg #[.nilIface, .int .i32 0], .bool false]) (by simp [results, Try.results23, go_sem]) rfl ⟨rfl, (by repeat (first | exact Below.refl _ _ | apply Below.drew | (refine Below.alloc ?_ (by simp; try omega) _) | (refine Below.setCell ?_ (by simp; try omega) _)))⟩
end Go.Proofs.YtonhekaakddneaaRRR
