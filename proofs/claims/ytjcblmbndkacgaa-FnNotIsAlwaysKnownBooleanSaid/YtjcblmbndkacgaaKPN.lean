/- Proved here: what MaybeSimplifyNot and Not answer at each kind of node. Conditions as stated. -/
import Derived.Test.YtjcblmbndkacgaaKPC
import Derived.Test.YtjcblmbndkacgaaKPF
import Derived.WalkKit
import Derived.WalkSpells
import Derived.WalkLawsBesides
import Derived.Lib.Hide
import Derived.Lib.SliceRun
import Derived.Deep.RegionWith
import Derived.Deep.RegionHeld3
import Derived.Deep.DeepCutAuto
import Derived.Deep.QuietTactic
import Derived.BigQuiet
namespace Go.Proofs.Ytjcblmbndkacgaa
open Go.RowKit
set_option linter.unusedSimpArgs false
set_option linter.unusedVariables false

/-- The blocks below n0 (but g) and those from n1 on are as they were. -/
def ExtM (g n0 n1 : Nat) (w W : World) : Prop := w.heap.size ≤ W.heap.size ∧ ∀ b, ((b < n0 ∧ b ≠ g) ∨ n1 ≤ b) → b < w.heap.size → W.heap[b]? = w.heap[b]?
theorem ExtM.refl (g n0 n1 : Nat) (w : World) : ExtM g n0 n1 w w := ⟨Nat.le_refl _, fun _ _ _ => rfl⟩
theorem ExtM.trans {g n0 n1 : Nat} {a b c : World} (h1 : ExtM g n0 n1 a b) (h2 : ExtM g n0 n1 b c) : ExtM g n0 n1 a c := ⟨Nat.le_trans h1.1 h2.1, fun k hk hl => (h2.2 k hk (Nat.lt_of_lt_of_le hl h1.1)).trans (h1.2 k hk hl)⟩
theorem ExtM.alloc {g n0 n1 : Nat} {a b : World} (h : ExtM g n0 n1 a b) (o : Obj) : ExtM g n0 n1 a (b.alloc o) := h.trans ⟨by simp, fun k _ hk => Below.heap_alloc b o k hk⟩
theorem ExtM.drew {g n0 n1 : Nat} {a b : World} (h : ExtM g n0 n1 a b) : ExtM g n0 n1 a b.drew := h
theorem ExtM.set {g n0 n1 k : Nat} {a b : World} (h : ExtM g n0 n1 a b) (h0 : n0 ≤ k) (h1 : k < n1) (i : Nat) (v : Value) : ExtM g n0 n1 a (b.setCell ⟨k, i, none⟩ v) := h.trans ⟨by simp [World.setCell], fun j hj _ => Below.heap_setCell b ⟨k, i, none⟩ v j (by simp; omega)⟩
theorem ExtM.of {g n0 n1 : Nat} {a b : World} (h : Below a.heap.size a b) : ExtM g n0 n1 a b := ⟨h.size, fun k _ hk => h.block k hk⟩
theorem ExtM.up {g n0 n1 n2 : Nat} {a b : World} (h : ExtM g n0 n1 a b) (hn : n1 ≤ n2) : ExtM g n0 n2 a b := ⟨h.1, fun k hk hl => h.2 k (by omega) hl⟩
theorem ExtM.ext {g n1 : Nat} {w a b : World} (h0 : Ext g w a) (h : ExtM g w.heap.size n1 a b) : Ext g w b := ⟨Nat.le_trans h0.1 h.1, fun k hk hg => (h.2 k (.inl ⟨hk, hg⟩) (Nat.lt_of_lt_of_le hk h0.1)).trans (h0.2 k hk hg)⟩
theorem ExtM.fromExt {g n0 n1 : Nat} {a b : World} (h : Ext g a b) (hg : g < n1) : ExtM g n0 n1 a b := ⟨h.1, fun k hk hl => h.2 k hl (by omega)⟩
theorem ExtM.cell {g n0 n1 b o : Nat} {w W : World} {v : Value} (h : ExtM g n0 n1 w W) (hb : n1 ≤ b) (hc : w.cell? ⟨b, o, none⟩ = some v) : W.cell? ⟨b, o, none⟩ = some v :=
  (World.cell?_of_block (a := ⟨b, o, none⟩) (h.2 b (.inr hb) (World.block_lt_of_cell? _ _ hc))).trans hc
/-- In w and in whatever keeps those blocks the primitive type of d is t. -/
def KPM (g n0 n1 : Nat) (w : World) (d : Value) (t : Int) : Prop := ∀ W, ExtM g n0 n1 w W → Calls Try.prog 12 #[d] W (QK t W)
theorem KPM.step {g n0 n1 : Nat} {w w' : World} {d : Value} {t : Int} (h : KPM g n0 n1 w d t) (he : ExtM g n0 n1 w w') : KPM g n0 n1 w' d t := fun W hW => h W (he.trans hW)
theorem KPM.low {g n0 n1 n2 : Nat} {w : World} {d : Value} {t : Int} (h : KPM g n0 n1 w d t) (hn : n2 ≤ n1) : KPM g n0 n2 w d t := fun W hW => h W (hW.up hn)
theorem KPM.is {g n0 n1 : Nat} {w W : World} {d : Value} {t : Int} (h : KPM g n0 n1 w d t) (he : ExtM g n0 n1 w W) (hg : g < n1) : KPis g W d t := fun W' hW' => h W' (he.trans (.fromExt hW' hg))
theorem KPM.leaf {g n0 n1 : Nat} {w : World} {d : Value} {t : Int} (h : ∀ W, KPis g W d t) : KPM g n0 n1 w d t := fun W _ => h W W (Ext.refl _ _)
theorem KPM.old {g n1 : Nat} {w a : World} {d : Value} {t : Int} (h : KPis g w d t) (ha : Ext g w a) : KPM g w.heap.size n1 a d t := fun W hW => h W (ExtM.ext ha hW)
def QN (g n0 : Nat) (W : World) (e : Ending) (w' : World) : Prop := ∃ d b, e = .returned (.tuple #[.agg #[d, .int .i32 0], .bool b]) ∧ IsI d ∧ (b = true → KPM g n0 W.heap.size w' d 4) ∧ Below W.heap.size W w'
/-- In w and in whatever extends it (but for block g) MaybeSimplifyNot, where it answers at v, answers a boolean. -/
def MN (g : Nat) (w : World) (v : Value) : Prop := ∀ W, Ext g w W → g < W.heap.size → Calls Try.prog 27 #[.agg #[v, .int .i32 0]] W (QN g w.heap.size W)
theorem MN.ext {g : Nat} {w w' : World} {v : Value} (h : MN g w v) (he : Ext g w w') : MN g w' v := fun W hW hg => (h W (he.trans hW) hg).mono fun e w2 ⟨d, b, h1, h2, h3, h4⟩ => ⟨d, b, h1, h2, fun hb W' hW' => h3 hb W' ⟨hW'.1, fun k hk hl => hW'.2 k (by have := he.1; omega) hl⟩, h4⟩

set_option maxRecDepth 100000 in
set_option maxHeartbeats 4000000 in
theorem mn111 (g : Nat) (w : World) (b : Nat) : MN g w (.iface 111 (.pointer (some ⟨b, 0, none⟩))) := by
  intro W hW hg
  go_enter Try.func27, Try.ntmps27
  go_wp2_with fail
  exact bodyPost_ret (v := .tuple #[.agg #[.iface 108 (.pointer (some ⟨W.heap.size + 2, 0, none⟩)), .int .i32 0], .bool true]) (by simp [results, Try.results27, go_sem]) rfl ⟨_, _, rfl, .inr ⟨_, _, rfl⟩, fun _ => .leaf (kp108 g _), (by repeat (first | with_reducible exact Below.refl _ _ | (with_reducible refine Below.drew ?_) | (with_reducible refine Below.alloc ?_ (by simp; try omega) _) | (with_reducible refine Below.setCell ?_ (by simp; try omega) _)))⟩

set_option maxRecDepth 100000 in
set_option maxHeartbeats 4000000 in
theorem mn114 (g : Nat) (w : World) (b : Nat) : MN g w (.iface 114 (.pointer (some ⟨b, 0, none⟩))) := by
  intro W hW hg
  go_enter Try.func27, Try.ntmps27
  go_wp2_with fail
  exact bodyPost_ret (v := .tuple #[.agg #[.iface 108 (.pointer (some ⟨W.heap.size + 2, 0, none⟩)), .int .i32 0], .bool true]) (by simp [results, Try.results27, go_sem]) rfl ⟨_, _, rfl, .inr ⟨_, _, rfl⟩, fun _ => .leaf (kp108 g _), (by repeat (first | with_reducible exact Below.refl _ _ | (with_reducible refine Below.drew ?_) | (with_reducible refine Below.alloc ?_ (by simp; try omega) _) | (with_reducible refine Below.setCell ?_ (by simp; try omega) _)))⟩

set_option maxRecDepth 100000 in
set_option maxHeartbeats 4000000 in
theorem mn144 (g : Nat) (w : World) (b : Nat) : MN g w (.iface 144 (.pointer (some ⟨b, 0, none⟩))) := by
  intro W hW hg
  go_enter Try.func27, Try.ntmps27
  go_wp2_with fail
  exact bodyPost_ret (v := .tuple #[.agg #[.iface 108 (.pointer (some ⟨W.heap.size + 2, 0, none⟩)), .int .i32 0], .bool true]) (by simp [results, Try.results27, go_sem]) rfl ⟨_, _, rfl, .inr ⟨_, _, rfl⟩, fun _ => .leaf (kp108 g _), (by repeat (first | with_reducible exact Below.refl _ _ | (with_reducible refine Below.drew ?_) | (with_reducible refine Below.alloc ?_ (by simp; try omega) _) | (with_reducible refine Below.setCell ?_ (by simp; try omega) _)))⟩

set_option maxRecDepth 100000 in
set_option maxHeartbeats 4000000 in
theorem mn156 (g : Nat) (w : World) (b : Nat) : MN g w (.iface 156 (.pointer (some ⟨b, 0, none⟩))) := by
  intro W hW hg
  go_enter Try.func27, Try.ntmps27
  go_wp2_with fail
  exact bodyPost_ret (v := .tuple #[.agg #[.iface 108 (.pointer (some ⟨W.heap.size + 2, 0, none⟩)), .int .i32 0], .bool true]) (by simp [results, Try.results27, go_sem]) rfl ⟨_, _, rfl, .inr ⟨_, _, rfl⟩, fun _ => .leaf (kp108 g _), (by repeat (first | with_reducible exact Below.refl _ _ | (with_reducible refine Below.drew ?_) | (with_reducible refine Below.alloc ?_ (by simp; try omega) _) | (with_reducible refine Below.setCell ?_ (by simp; try omega) _)))⟩

set_option maxRecDepth 100000 in
set_option maxHeartbeats 4000000 in
theorem mn159 (g : Nat) (w : World) (b : Nat) : MN g w (.iface 159 (.pointer (some ⟨b, 0, none⟩))) := by
  intro W hW hg
  go_enter Try.func27, Try.ntmps27
  go_wp2_with fail
  exact bodyPost_ret (v := .tuple #[.agg #[.iface 108 (.pointer (some ⟨W.heap.size + 2, 0, none⟩)), .int .i32 0], .bool true]) (by simp [results, Try.results27, go_sem]) rfl ⟨_, _, rfl, .inr ⟨_, _, rfl⟩, fun _ => .leaf (kp108 g _), (by repeat (first | with_reducible exact Below.refl _ _ | (with_reducible refine Below.drew ?_) | (with_reducible refine Below.alloc ?_ (by simp; try omega) _) | (with_reducible refine Below.setCell ?_ (by simp; try omega) _)))⟩

set_option maxRecDepth 100000 in
set_option maxHeartbeats 4000000 in
theorem mn133 (g : Nat) (w : World) (b : Nat) : MN g w (.iface 133 (.pointer (some ⟨b, 0, none⟩))) := by
  intro W hW hg
  go_enter Try.func27, Try.ntmps27
  go_wp2_with fail
  exact bodyPost_ret (v := .tuple #[.agg #[.nilIface, .int .i32 0], .bool false]) (by simp [results, Try.results27, go_sem]) rfl ⟨_, _, rfl, .inl rfl, fun h => (by cases h), (by repeat (first | with_reducible exact Below.refl _ _ | (with_reducible refine Below.drew ?_) | (with_reducible refine Below.alloc ?_ (by simp; try omega) _) | (with_reducible refine Below.setCell ?_ (by simp; try omega) _)))⟩

set_option maxRecDepth 100000 in
set_option maxHeartbeats 4000000 in
theorem mn123 (g : Nat) (w : World) (b : Nat) : MN g w (.iface 123 (.pointer (some ⟨b, 0, none⟩))) := by
  intro W hW hg
  go_enter Try.func27, Try.ntmps27
  go_wp2_with fail
  exact bodyPost_ret (v := .tuple #[.agg #[.nilIface, .int .i32 0], .bool false]) (by simp [results, Try.results27, go_sem]) rfl ⟨_, _, rfl, .inl rfl, fun h => (by cases h), (by repeat (first | with_reducible exact Below.refl _ _ | (with_reducible refine Below.drew ?_) | (with_reducible refine Below.alloc ?_ (by simp; try omega) _) | (with_reducible refine Below.setCell ?_ (by simp; try omega) _)))⟩

set_option maxRecDepth 100000 in
set_option maxHeartbeats 4000000 in
theorem mn137 (g : Nat) (w : World) (b : Nat) : MN g w (.iface 137 (.pointer (some ⟨b, 0, none⟩))) := by
  intro W hW hg
  go_enter Try.func27, Try.ntmps27
  go_wp2_with fail
  exact bodyPost_ret (v := .tuple #[.agg #[.nilIface, .int .i32 0], .bool false]) (by simp [results, Try.results27, go_sem]) rfl ⟨_, _, rfl, .inl rfl, fun h => (by cases h), (by repeat (first | with_reducible exact Below.refl _ _ | (with_reducible refine Below.drew ?_) | (with_reducible refine Below.alloc ?_ (by simp; try omega) _) | (with_reducible refine Below.setCell ?_ (by simp; try omega) _)))⟩

set_option maxRecDepth 100000 in
set_option maxHeartbeats 4000000 in
theorem mn141 (g : Nat) (w : World) (b : Nat) : MN g w (.iface 141 (.pointer (some ⟨b, 0, none⟩))) := by
  intro W hW hg
  go_enter Try.func27, Try.ntmps27
  go_wp2_with fail
  exact bodyPost_ret (v := .tuple #[.agg #[.nilIface, .int .i32 0], .bool false]) (by simp [results, Try.results27, go_sem]) rfl ⟨_, _, rfl, .inl rfl, fun h => (by cases h), (by repeat (first | with_reducible exact Below.refl _ _ | (with_reducible refine Below.drew ?_) | (with_reducible refine Below.alloc ?_ (by simp; try omega) _) | (with_reducible refine Below.setCell ?_ (by simp; try omega) _)))⟩

set_option maxRecDepth 100000 in
set_option maxHeartbeats 4000000 in
theorem mn47 (g : Nat) (w : World) (b : Nat) : MN g w (.iface 47 (.pointer (some ⟨b, 0, none⟩))) := by
  intro W hW hg
  go_enter Try.func27, Try.ntmps27
  go_wp2_with fail
  exact bodyPost_ret (v := .tuple #[.agg #[.nilIface, .int .i32 0], .bool false]) (by simp [results, Try.results27, go_sem]) rfl ⟨_, _, rfl, .inl rfl, fun h => (by cases h), (by repeat (first | with_reducible exact Below.refl _ _ | (with_reducible refine Below.drew ?_) | (with_reducible refine Below.alloc ?_ (by simp; try omega) _) | (with_reducible refine Below.setCell ?_ (by simp; try omega) _)))⟩

set_option maxRecDepth 100000 in
set_option maxHeartbeats 4000000 in
theorem mnnil (g : Nat) (w : World) : MN g w .nilIface := by
  intro W hW hg
  go_enter Try.func27, Try.ntmps27
  go_wp2_with fail
  exact bodyPost_ret (v := .tuple #[.agg #[.nilIface, .int .i32 0], .bool false]) (by simp [results, Try.results27, go_sem]) rfl ⟨_, _, rfl, .inl rfl, fun h => (by cases h), (by repeat (first | with_reducible exact Below.refl _ _ | (with_reducible refine Below.drew ?_) | (with_reducible refine Below.alloc ?_ (by simp; try omega) _) | (with_reducible refine Below.setCell ?_ (by simp; try omega) _)))⟩

set_option maxRecDepth 100000 in
set_option maxHeartbeats 4000000 in
theorem mn108 (g : Nat) (w : World) (b : Nat) (f : Bool) (hb : b ≠ g) (hc : w.cell? ⟨b, 0, none⟩ = some (.bool f)) : MN g w (.iface 108 (.pointer (some ⟨b, 0, none⟩))) := by
  intro W hW hg
  have e0 := hW.cell hb hc
  have lb : b < W.heap.size := World.block_lt_of_cell? _ _ e0
  clear hc
  go_enter Try.func27, Try.ntmps27
  go_wp2_with fail
  go_region
  all_goals
    go_wp2_with fail
    exact bodyPost_ret (v := .tuple #[.agg #[.iface 108 (.pointer (some ⟨W.heap.size + 2, 0, none⟩)), .int .i32 0], .bool true]) (by simp [results, Try.results27, go_sem]) rfl ⟨_, _, rfl, .inr ⟨_, _, rfl⟩, fun _ => .leaf (kp108 g _), (by repeat (first | with_reducible exact Below.refl _ _ | (with_reducible refine Below.drew ?_) | (with_reducible refine Below.alloc ?_ (by simp; try omega) _) | (with_reducible refine Below.setCell ?_ (by simp; try omega) _)))⟩

set_option maxRecDepth 100000 in
set_option maxHeartbeats 4000000 in
theorem mn104 (g : Nat) (w : World) (b : Nat) (hb : b ≠ g) (hc : w.cell? ⟨b, 0, none⟩ = some (.slice none 0 0)) : MN g w (.iface 104 (.pointer (some ⟨b, 0, none⟩))) := by
  intro W hW hg
  have e0 := hW.cell hb hc
  have lb : b < W.heap.size := World.block_lt_of_cell? _ _ e0
  clear hc
  go_enter Try.func27, Try.ntmps27
  go_wp2_with fail
  go_region
  all_goals
    go_wp2_with fail
    exact bodyPost_ret (v := .tuple #[.agg #[.iface 108 (.pointer (some ⟨W.heap.size + 2, 0, none⟩)), .int .i32 0], .bool true]) (by simp [results, Try.results27, go_sem]) rfl ⟨_, _, rfl, .inr ⟨_, _, rfl⟩, fun _ => .leaf (kp108 g _), (by repeat (first | with_reducible exact Below.refl _ _ | (with_reducible refine Below.drew ?_) | (with_reducible refine Below.alloc ?_ (by simp; try omega) _) | (with_reducible refine Below.setCell ?_ (by simp; try omega) _)))⟩

set_option maxRecDepth 100000 in
set_option maxHeartbeats 4000000 in
theorem mn100 (g : Nat) (w : World) (b : Nat) (hb : b ≠ g) (hc : w.cell? ⟨b, 0, none⟩ = some (.float .f64 0)) : MN g w (.iface 100 (.pointer (some ⟨b, 0, none⟩))) := by
  intro W hW hg
  have e0 := hW.cell hb hc
  have lb : b < W.heap.size := World.block_lt_of_cell? _ _ e0
  clear hc
  have z0 : (FloatKind.f64.format.order 0 0 == some .eq) = true := by kernel_rfl
  go_enter Try.func27, Try.ntmps27
  go_wp2_with fail
  go_region
  all_goals
    go_wp2_with fail
    exact bodyPost_ret (v := .tuple #[.agg #[.iface 108 (.pointer (some ⟨W.heap.size + 2, 0, none⟩)), .int .i32 0], .bool true]) (by simp [results, Try.results27, go_sem]) rfl ⟨_, _, rfl, .inr ⟨_, _, rfl⟩, fun _ => .leaf (kp108 g _), (by repeat (first | with_reducible exact Below.refl _ _ | (with_reducible refine Below.drew ?_) | (with_reducible refine Below.alloc ?_ (by simp; try omega) _) | (with_reducible refine Below.setCell ?_ (by simp; try omega) _)))⟩

set_option maxRecDepth 100000 in
set_option maxHeartbeats 4000000 in
theorem ceqa (w : World) : Calls Try.prog 33 #[.string ⟨#[48]⟩, .string ⟨#[48]⟩] w (fun e w' => e = .returned (.tuple #[.bool true, .bool true]) ∧ w = w') := by
  go_enter Try.func33, Try.ntmps33
  go_wp2_with fail
  exact bodyPost_ret (v := .tuple #[.bool true, .bool true]) (by simp [results, Try.results33, go_sem]) rfl ⟨rfl, rfl⟩

set_option maxRecDepth 100000 in
set_option maxHeartbeats 4000000 in
theorem ceqb (w : World) : Calls Try.prog 33 #[.string ⟨#[48, 120, 48]⟩, .string ⟨#[48]⟩] w (fun e w' => e = .returned (.tuple #[.bool false, .bool false]) ∧ w = w') := by
  go_enter Try.func33, Try.ntmps33
  go_wp2_with fail
  exact bodyPost_ret (v := .tuple #[.bool false, .bool false]) (by simp [results, Try.results33, go_sem]) rfl ⟨rfl, rfl⟩

set_option maxRecDepth 100000 in
set_option maxHeartbeats 4000000 in
theorem mn116a (g : Nat) (w : World) (b : Nat) (hb : b ≠ g) (hc : w.cell? ⟨b, 0, none⟩ = some (.string ⟨#[48]⟩)) : MN g w (.iface 116 (.pointer (some ⟨b, 0, none⟩))) := by
  intro W hW hg
  have e0 := hW.cell hb hc
  have lb : b < W.heap.size := World.block_lt_of_cell? _ _ e0
  clear hc
  go_enter Try.func27, Try.ntmps27
  go_wp2_with fail
  refine (ceqa _).mono ?_
  rintro e w' ⟨rfl, rfl⟩
  go_wp2_with fail
  exact bodyPost_ret (v := .tuple #[.agg #[.iface 108 (.pointer (some ⟨W.heap.size + 2, 0, none⟩)), .int .i32 0], .bool true]) (by simp [results, Try.results27, go_sem]) rfl ⟨_, _, rfl, .inr ⟨_, _, rfl⟩, fun _ => .leaf (kp108 g _), (by repeat (first | with_reducible exact Below.refl _ _ | (with_reducible refine Below.drew ?_) | (with_reducible refine Below.alloc ?_ (by simp; try omega) _) | (with_reducible refine Below.setCell ?_ (by simp; try omega) _)))⟩

set_option maxRecDepth 100000 in
set_option maxHeartbeats 4000000 in
theorem mn116b (g : Nat) (w : World) (b : Nat) (hb : b ≠ g) (hc : w.cell? ⟨b, 0, none⟩ = some (.string ⟨#[48, 120, 48]⟩)) : MN g w (.iface 116 (.pointer (some ⟨b, 0, none⟩))) := by
  intro W hW hg
  have e0 := hW.cell hb hc
  have lb : b < W.heap.size := World.block_lt_of_cell? _ _ e0
  clear hc
  go_enter Try.func27, Try.ntmps27
  go_wp2_with fail
  refine (ceqb _).mono ?_
  rintro e w' ⟨rfl, rfl⟩
  go_wp2_with fail
  exact bodyPost_ret (v := .tuple #[.agg #[.nilIface, .int .i32 0], .bool false]) (by simp [results, Try.results27, go_sem]) rfl ⟨_, _, rfl, .inl rfl, fun h => (by cases h), (by repeat (first | with_reducible exact Below.refl _ _ | (with_reducible refine Below.drew ?_) | (with_reducible refine Below.alloc ?_ (by simp; try omega) _) | (with_reducible refine Below.setCell ?_ (by simp; try omega) _)))⟩

theorem un4 {g n0 n1 b : Nat} {w : World} {v : Value} {t : Int} (hn : n1 ≤ b) (hgb : g < b) (h0 : w.cell? ⟨b, 0, none⟩ = some v) (h2 : w.cell? ⟨b, 2, none⟩ = some (.int .u8 3)) (hg : g < n1) (hk : ∀ W, ExtM g n0 n1 w W → KPis g W v t) : KPM g n0 n1 w (.iface 119 (.pointer (some ⟨b, 0, none⟩))) 4 := fun W hW => kp119 g b v 3 t W (by omega) (hW.cell hn h0) (hW.cell hn h2) (hk W hW) W (Ext.refl _ _)
def QNN (g n0 : Nat) (W : World) (e : Ending) (w' : World) : Prop := ∃ d, e = .returned (.agg #[d, .int .i32 0]) ∧ IsI d ∧ KPM g n0 W.heap.size w' d 4 ∧ Below W.heap.size W w'

set_option maxRecDepth 100000 in
set_option maxHeartbeats 4000000 in
theorem nn (g : Nat) (w : World) (v : Value) (t : Int) (hI : IsI v) (hk : KPis g w v t) (hm : MN g w v) (W : World) (hW : Ext g w W) (hg : g < W.heap.size) : Calls Try.prog 11 #[.agg #[v, .int .i32 0]] W (QNN g w.heap.size W) := by
  have HM := Lib.hid (fun (W' : World) (hb : Below W.heap.size W W') => hm W' (hW.trans (Ext.of hb)) (Nat.lt_of_lt_of_le hg hb.size))
  have HK := Lib.hid (fun (W' : World) (he : Ext g w W') => hk.ext he)
  have hn0 := hW.1
  clear hm hk
  rcases hI with rfl | ⟨tt, bb, rfl⟩
  · go_enter Try.func11, Try.ntmps11
    go_wp2_with fail
    refine (HM.out _ (by repeat (first | with_reducible exact Below.refl _ _ | (with_reducible refine Below.drew ?_) | (with_reducible refine Below.alloc ?_ (by simp; try omega) _) | (with_reducible refine Below.setCell ?_ (by simp; try omega) _)))).mono ?_
    rintro e w1 ⟨d, b, rfl, hd, hk4, hb1⟩
    have e0 : w1.cell? ⟨W.heap.size, 0, none⟩ = some .nilIface := kept hb1 (by simp [go_sem])
    have e1 : w1.cell? ⟨W.heap.size, 1, none⟩ = some (.int .i32 0) := kept hb1 (by simp [go_sem])
    have f0 : w1.cell? ⟨W.heap.size + 1, 0, none⟩ = some .nilIface := kept hb1 (by simp [go_sem])
    have f1 : w1.cell? ⟨W.heap.size + 1, 1, none⟩ = some (.int .i32 0) := kept hb1 (by simp [go_sem])
    have z0 : w1.frozen? ⟨W.heap.size + 1, 0, none⟩ = false := keptF hb1 (o := 0) (v := .nilIface) (by simp [go_sem]) (by simp [go_sem])
    have z1 : w1.frozen? ⟨W.heap.size + 1, 1, none⟩ = false := keptF hb1 (o := 1) (v := .int .i32 0) (by simp [go_sem]) (by simp [go_sem])
    have l0 : W.heap.size < w1.heap.size := World.block_lt_of_cell? _ _ e0
    have l1 : W.heap.size + 1 < w1.heap.size := World.block_lt_of_cell? _ _ f0
    have HK4 := Lib.hid (show b = true → KPM g w.heap.size (W.heap.size + 2) w1 d 4 from fun h => by have := hk4 h; simpa using this)
    have BW := Lib.hid (show Below W.heap.size W w1 from ((by repeat (first | with_reducible exact Below.refl _ _ | (with_reducible refine Below.drew ?_) | (with_reducible refine Below.alloc ?_ (by simp; try omega) _) | (with_reducible refine Below.setCell ?_ (by simp; try omega) _))) : Below W.heap.size W _).trans (hb1.mono (by simp; try omega)))
    have hszw := BW.out.size
    clear hb1 hk4
    rcases hd with rfl | ⟨td, bd, rfl⟩
    · cases b
      · clear HK4
        go_wp2_with fail
        exact bodyPost_ret (v := .agg #[.iface 119 (.pointer (some ⟨w1.heap.size + 1, 0, none⟩)), .int .i32 0]) (by simp [results, Try.results11, go_sem, *]) rfl ⟨_, rfl, .inr ⟨_, _, rfl⟩, un4 (by omega) (by omega) (by simp [go_sem]) (by simp [go_sem]) hg (fun W' h' => HK.out W' (ExtM.ext (hW.trans (Ext.of (by repeat (first | with_reducible exact BW.out | (with_reducible refine Below.drew ?_) | (with_reducible refine Below.alloc ?_ (by have := Below.size BW.out; simp; try omega) _) | (with_reducible refine Below.setCell ?_ (by have := Below.size BW.out; simp; try omega) _))))) h')), (by repeat (first | with_reducible exact BW.out | (with_reducible refine Below.drew ?_) | (with_reducible refine Below.alloc ?_ (by have := Below.size BW.out; simp; try omega) _) | (with_reducible refine Below.setCell ?_ (by have := Below.size BW.out; simp; try omega) _)))⟩
      · go_wp2_with fail
        exact bodyPost_ret (v := .agg #[.nilIface, .int .i32 0]) (by simp [results, Try.results11, go_sem, *]) rfl ⟨_, rfl, (by first | exact .inl rfl | exact .inr ⟨_, _, rfl⟩), ((HK4.out (by simp)).step (by repeat (first | with_reducible exact ExtM.refl _ _ _ _ | (with_reducible refine ExtM.drew ?_) | (with_reducible refine ExtM.alloc ?_ _) | (with_reducible refine ExtM.set ?_ (by omega) (by omega) _ _)))).low (by omega), (by repeat (first | with_reducible exact BW.out | (with_reducible refine Below.drew ?_) | (with_reducible refine Below.alloc ?_ (by have := Below.size BW.out; simp; try omega) _) | (with_reducible refine Below.setCell ?_ (by have := Below.size BW.out; simp; try omega) _)))⟩
    · cases b
      · clear HK4
        go_wp2_with fail
        exact bodyPost_ret (v := .agg #[.iface 119 (.pointer (some ⟨w1.heap.size + 1, 0, none⟩)), .int .i32 0]) (by simp [results, Try.results11, go_sem, *]) rfl ⟨_, rfl, .inr ⟨_, _, rfl⟩, un4 (by omega) (by omega) (by simp [go_sem]) (by simp [go_sem]) hg (fun W' h' => HK.out W' (ExtM.ext (hW.trans (Ext.of (by repeat (first | with_reducible exact BW.out | (with_reducible refine Below.drew ?_) | (with_reducible refine Below.alloc ?_ (by have := Below.size BW.out; simp; try omega) _) | (with_reducible refine Below.setCell ?_ (by have := Below.size BW.out; simp; try omega) _))))) h')), (by repeat (first | with_reducible exact BW.out | (with_reducible refine Below.drew ?_) | (with_reducible refine Below.alloc ?_ (by have := Below.size BW.out; simp; try omega) _) | (with_reducible refine Below.setCell ?_ (by have := Below.size BW.out; simp; try omega) _)))⟩
      · go_wp2_with fail
        exact bodyPost_ret (v := .agg #[.iface td (.pointer (some ⟨bd, 0, none⟩)), .int .i32 0]) (by simp [results, Try.results11, go_sem, *]) rfl ⟨_, rfl, (by first | exact .inl rfl | exact .inr ⟨_, _, rfl⟩), ((HK4.out (by simp)).step (by repeat (first | with_reducible exact ExtM.refl _ _ _ _ | (with_reducible refine ExtM.drew ?_) | (with_reducible refine ExtM.alloc ?_ _) | (with_reducible refine ExtM.set ?_ (by omega) (by omega) _ _)))).low (by omega), (by repeat (first | with_reducible exact BW.out | (with_reducible refine Below.drew ?_) | (with_reducible refine Below.alloc ?_ (by have := Below.size BW.out; simp; try omega) _) | (with_reducible refine Below.setCell ?_ (by have := Below.size BW.out; simp; try omega) _)))⟩
  · go_enter Try.func11, Try.ntmps11
    go_wp2_with fail
    refine (HM.out _ (by repeat (first | with_reducible exact Below.refl _ _ | (with_reducible refine Below.drew ?_) | (with_reducible refine Below.alloc ?_ (by simp; try omega) _) | (with_reducible refine Below.setCell ?_ (by simp; try omega) _)))).mono ?_
    rintro e w1 ⟨d, b, rfl, hd, hk4, hb1⟩
    have e0 : w1.cell? ⟨W.heap.size, 0, none⟩ = some (.iface tt (.pointer (some ⟨bb, 0, none⟩))) := kept hb1 (by simp [go_sem])
    have e1 : w1.cell? ⟨W.heap.size, 1, none⟩ = some (.int .i32 0) := kept hb1 (by simp [go_sem])
    have f0 : w1.cell? ⟨W.heap.size + 1, 0, none⟩ = some .nilIface := kept hb1 (by simp [go_sem])
    have f1 : w1.cell? ⟨W.heap.size + 1, 1, none⟩ = some (.int .i32 0) := kept hb1 (by simp [go_sem])
    have z0 : w1.frozen? ⟨W.heap.size + 1, 0, none⟩ = false := keptF hb1 (o := 0) (v := .nilIface) (by simp [go_sem]) (by simp [go_sem])
    have z1 : w1.frozen? ⟨W.heap.size + 1, 1, none⟩ = false := keptF hb1 (o := 1) (v := .int .i32 0) (by simp [go_sem]) (by simp [go_sem])
    have l0 : W.heap.size < w1.heap.size := World.block_lt_of_cell? _ _ e0
    have l1 : W.heap.size + 1 < w1.heap.size := World.block_lt_of_cell? _ _ f0
    have HK4 := Lib.hid (show b = true → KPM g w.heap.size (W.heap.size + 2) w1 d 4 from fun h => by have := hk4 h; simpa using this)
    have BW := Lib.hid (show Below W.heap.size W w1 from ((by repeat (first | with_reducible exact Below.refl _ _ | (with_reducible refine Below.drew ?_) | (with_reducible refine Below.alloc ?_ (by simp; try omega) _) | (with_reducible refine Below.setCell ?_ (by simp; try omega) _))) : Below W.heap.size W _).trans (hb1.mono (by simp; try omega)))
    have hszw := BW.out.size
    clear hb1 hk4
    rcases hd with rfl | ⟨td, bd, rfl⟩
    · cases b
      · clear HK4
        go_wp2_with fail
        exact bodyPost_ret (v := .agg #[.iface 119 (.pointer (some ⟨w1.heap.size + 1, 0, none⟩)), .int .i32 0]) (by simp [results, Try.results11, go_sem, *]) rfl ⟨_, rfl, .inr ⟨_, _, rfl⟩, un4 (by omega) (by omega) (by simp [go_sem]) (by simp [go_sem]) hg (fun W' h' => HK.out W' (ExtM.ext (hW.trans (Ext.of (by repeat (first | with_reducible exact BW.out | (with_reducible refine Below.drew ?_) | (with_reducible refine Below.alloc ?_ (by have := Below.size BW.out; simp; try omega) _) | (with_reducible refine Below.setCell ?_ (by have := Below.size BW.out; simp; try omega) _))))) h')), (by repeat (first | with_reducible exact BW.out | (with_reducible refine Below.drew ?_) | (with_reducible refine Below.alloc ?_ (by have := Below.size BW.out; simp; try omega) _) | (with_reducible refine Below.setCell ?_ (by have := Below.size BW.out; simp; try omega) _)))⟩
      · go_wp2_with fail
        exact bodyPost_ret (v := .agg #[.nilIface, .int .i32 0]) (by simp [results, Try.results11, go_sem, *]) rfl ⟨_, rfl, (by first | exact .inl rfl | exact .inr ⟨_, _, rfl⟩), ((HK4.out (by simp)).step (by repeat (first | with_reducible exact ExtM.refl _ _ _ _ | (with_reducible refine ExtM.drew ?_) | (with_reducible refine ExtM.alloc ?_ _) | (with_reducible refine ExtM.set ?_ (by omega) (by omega) _ _)))).low (by omega), (by repeat (first | with_reducible exact BW.out | (with_reducible refine Below.drew ?_) | (with_reducible refine Below.alloc ?_ (by have := Below.size BW.out; simp; try omega) _) | (with_reducible refine Below.setCell ?_ (by have := Below.size BW.out; simp; try omega) _)))⟩
    · cases b
      · clear HK4
        go_wp2_with fail
        exact bodyPost_ret (v := .agg #[.iface 119 (.pointer (some ⟨w1.heap.size + 1, 0, none⟩)), .int .i32 0]) (by simp [results, Try.results11, go_sem, *]) rfl ⟨_, rfl, .inr ⟨_, _, rfl⟩, un4 (by omega) (by omega) (by simp [go_sem]) (by simp [go_sem]) hg (fun W' h' => HK.out W' (ExtM.ext (hW.trans (Ext.of (by repeat (first | with_reducible exact BW.out | (with_reducible refine Below.drew ?_) | (with_reducible refine Below.alloc ?_ (by have := Below.size BW.out; simp; try omega) _) | (with_reducible refine Below.setCell ?_ (by have := Below.size BW.out; simp; try omega) _))))) h')), (by repeat (first | with_reducible exact BW.out | (with_reducible refine Below.drew ?_) | (with_reducible refine Below.alloc ?_ (by have := Below.size BW.out; simp; try omega) _) | (with_reducible refine Below.setCell ?_ (by have := Below.size BW.out; simp; try omega) _)))⟩
      · go_wp2_with fail
        exact bodyPost_ret (v := .agg #[.iface td (.pointer (some ⟨bd, 0, none⟩)), .int .i32 0]) (by simp [results, Try.results11, go_sem, *]) rfl ⟨_, rfl, (by first | exact .inl rfl | exact .inr ⟨_, _, rfl⟩), ((HK4.out (by simp)).step (by repeat (first | with_reducible exact ExtM.refl _ _ _ _ | (with_reducible refine ExtM.drew ?_) | (with_reducible refine ExtM.alloc ?_ _) | (with_reducible refine ExtM.set ?_ (by omega) (by omega) _ _)))).low (by omega), (by repeat (first | with_reducible exact BW.out | (with_reducible refine Below.drew ?_) | (with_reducible refine Below.alloc ?_ (by have := Below.size BW.out; simp; try omega) _) | (with_reducible refine Below.setCell ?_ (by have := Below.size BW.out; simp; try omega) _)))⟩

set_option maxRecDepth 100000 in
set_option maxHeartbeats 4000000 in
theorem mn119 (g : Nat) (w : World) (b : Nat) (v : Value) (op t : Int) (hb : b ≠ g) (h0 : w.cell? ⟨b, 0, none⟩ = some v) (h1 : w.cell? ⟨b, 1, none⟩ = some (.int .i32 0)) (h2 : w.cell? ⟨b, 2, none⟩ = some (.int .u8 op)) (hI : IsI v) (hk : KPis g w v t) : MN g w (.iface 119 (.pointer (some ⟨b, 0, none⟩))) := by
  intro W hW hg
  have e0 := hW.cell hb h0
  have e1 := hW.cell hb h1
  have e2 := hW.cell hb h2
  have lb : b < W.heap.size := World.block_lt_of_cell? _ _ e0
  have HK := Lib.hid hk
  have HW := Lib.hid hW
  have hn0 := hW.1
  clear h0 h1 h2 hk hW
  by_cases hop : op = 3
  · subst hop
    rcases hI with rfl | ⟨tt, bb, rfl⟩
    · have HC := Lib.hid (fun (W' : World) (hb : Below W.heap.size W W') => HK.out W' (HW.out.trans (Ext.of hb)))
      go_enter Try.func27, Try.ntmps27
      go_wp2_with fail
      refine (HC.out _ (by repeat (first | with_reducible exact Below.refl _ _ | (with_reducible refine Below.drew ?_) | (with_reducible refine Below.alloc ?_ (by simp; try omega) _) | (with_reducible refine Below.setCell ?_ (by simp; try omega) _)))).mono ?_
      rintro e w1 ⟨rfl, hb1⟩
      have a0 : w1.cell? ⟨b, 0, none⟩ = some (.nilIface) := kept hb1 (kAlloc (kAlloc e0))
      have a1 : w1.cell? ⟨b, 1, none⟩ = some (.int .i32 0) := kept hb1 (kAlloc (kAlloc e1))
      have f0 : w1.cell? ⟨W.heap.size + 1, 0, none⟩ = some .nilIface := kept hb1 (by simp [go_sem])
      have f1 : w1.cell? ⟨W.heap.size + 1, 1, none⟩ = some (.int .i32 0) := kept hb1 (by simp [go_sem])
      have z0 : w1.frozen? ⟨W.heap.size + 1, 0, none⟩ = false := keptF hb1 (o := 0) (v := .nilIface) (by simp [go_sem]) (by simp [go_sem])
      have z1 : w1.frozen? ⟨W.heap.size + 1, 1, none⟩ = false := keptF hb1 (o := 1) (v := .int .i32 0) (by simp [go_sem]) (by simp [go_sem])
      have l1 : W.heap.size + 1 < w1.heap.size := World.block_lt_of_cell? _ _ f0
      have BW := Lib.hid (show Below W.heap.size W w1 from ((by repeat (first | with_reducible exact Below.refl _ _ | (with_reducible refine Below.drew ?_) | (with_reducible refine Below.alloc ?_ (by simp; try omega) _) | (with_reducible refine Below.setCell ?_ (by simp; try omega) _))) : Below W.heap.size W _).trans (hb1.mono (by simp; try omega)))
      have hszw := BW.out.size
      have lb1 : b < w1.heap.size := by omega
      clear hb1 HC
      by_cases h4 : t = 4
      · subst h4
        go_wp2_with fail
        exact bodyPost_ret (v := .tuple #[.agg #[.nilIface, .int .i32 0], .bool true]) (by simp [results, Try.results27, go_sem, *]) rfl ⟨_, _, rfl, (by first | exact .inl rfl | exact .inr ⟨_, _, rfl⟩), fun _ => KPM.old HK.out (HW.out.trans (Ext.of (by repeat (first | with_reducible exact BW.out | (with_reducible refine Below.drew ?_) | (with_reducible refine Below.alloc ?_ (by have := Below.size BW.out; simp; try omega) _) | (with_reducible refine Below.setCell ?_ (by have := Below.size BW.out; simp; try omega) _))))), (by repeat (first | with_reducible exact BW.out | (with_reducible refine Below.drew ?_) | (with_reducible refine Below.alloc ?_ (by have := Below.size BW.out; simp; try omega) _) | (with_reducible refine Below.setCell ?_ (by have := Below.size BW.out; simp; try omega) _)))⟩
      · have h5 : (t == 4) = false := by simp [h4]
        go_wp2_with fail
        exact bodyPost_ret (v := .tuple #[.agg #[.nilIface, .int .i32 0], .bool false]) (by simp [results, Try.results27, go_sem, *]) rfl ⟨_, _, rfl, .inl rfl, fun h => (by cases h), (by repeat (first | with_reducible exact BW.out | (with_reducible refine Below.drew ?_) | (with_reducible refine Below.alloc ?_ (by have := Below.size BW.out; simp; try omega) _) | (with_reducible refine Below.setCell ?_ (by have := Below.size BW.out; simp; try omega) _)))⟩
    · have HC := Lib.hid (fun (W' : World) (hb : Below W.heap.size W W') => HK.out W' (HW.out.trans (Ext.of hb)))
      go_enter Try.func27, Try.ntmps27
      go_wp2_with fail
      refine (HC.out _ (by repeat (first | with_reducible exact Below.refl _ _ | (with_reducible refine Below.drew ?_) | (with_reducible refine Below.alloc ?_ (by simp; try omega) _) | (with_reducible refine Below.setCell ?_ (by simp; try omega) _)))).mono ?_
      rintro e w1 ⟨rfl, hb1⟩
      have a0 : w1.cell? ⟨b, 0, none⟩ = some (.iface tt (.pointer (some ⟨bb, 0, none⟩))) := kept hb1 (kAlloc (kAlloc e0))
      have a1 : w1.cell? ⟨b, 1, none⟩ = some (.int .i32 0) := kept hb1 (kAlloc (kAlloc e1))
      have f0 : w1.cell? ⟨W.heap.size + 1, 0, none⟩ = some .nilIface := kept hb1 (by simp [go_sem])
      have f1 : w1.cell? ⟨W.heap.size + 1, 1, none⟩ = some (.int .i32 0) := kept hb1 (by simp [go_sem])
      have z0 : w1.frozen? ⟨W.heap.size + 1, 0, none⟩ = false := keptF hb1 (o := 0) (v := .nilIface) (by simp [go_sem]) (by simp [go_sem])
      have z1 : w1.frozen? ⟨W.heap.size + 1, 1, none⟩ = false := keptF hb1 (o := 1) (v := .int .i32 0) (by simp [go_sem]) (by simp [go_sem])
      have l1 : W.heap.size + 1 < w1.heap.size := World.block_lt_of_cell? _ _ f0
      have BW := Lib.hid (show Below W.heap.size W w1 from ((by repeat (first | with_reducible exact Below.refl _ _ | (with_reducible refine Below.drew ?_) | (with_reducible refine Below.alloc ?_ (by simp; try omega) _) | (with_reducible refine Below.setCell ?_ (by simp; try omega) _))) : Below W.heap.size W _).trans (hb1.mono (by simp; try omega)))
      have hszw := BW.out.size
      have lb1 : b < w1.heap.size := by omega
      clear hb1 HC
      by_cases h4 : t = 4
      · subst h4
        go_wp2_with fail
        exact bodyPost_ret (v := .tuple #[.agg #[.iface tt (.pointer (some ⟨bb, 0, none⟩)), .int .i32 0], .bool true]) (by simp [results, Try.results27, go_sem, *]) rfl ⟨_, _, rfl, (by first | exact .inl rfl | exact .inr ⟨_, _, rfl⟩), fun _ => KPM.old HK.out (HW.out.trans (Ext.of (by repeat (first | with_reducible exact BW.out | (with_reducible refine Below.drew ?_) | (with_reducible refine Below.alloc ?_ (by have := Below.size BW.out; simp; try omega) _) | (with_reducible refine Below.setCell ?_ (by have := Below.size BW.out; simp; try omega) _))))), (by repeat (first | with_reducible exact BW.out | (with_reducible refine Below.drew ?_) | (with_reducible refine Below.alloc ?_ (by have := Below.size BW.out; simp; try omega) _) | (with_reducible refine Below.setCell ?_ (by have := Below.size BW.out; simp; try omega) _)))⟩
      · have h5 : (t == 4) = false := by simp [h4]
        go_wp2_with fail
        exact bodyPost_ret (v := .tuple #[.agg #[.nilIface, .int .i32 0], .bool false]) (by simp [results, Try.results27, go_sem, *]) rfl ⟨_, _, rfl, .inl rfl, fun h => (by cases h), (by repeat (first | with_reducible exact BW.out | (with_reducible refine Below.drew ?_) | (with_reducible refine Below.alloc ?_ (by have := Below.size BW.out; simp; try omega) _) | (with_reducible refine Below.setCell ?_ (by have := Below.size BW.out; simp; try omega) _)))⟩
  · have hop2 : (op == 3) = false := by simp [hop]
    clear hI HK
    go_enter Try.func27, Try.ntmps27
    go_wp2_with fail
    exact bodyPost_ret (v := .tuple #[.agg #[.nilIface, .int .i32 0], .bool false]) (by simp [results, Try.results27, go_sem]) rfl ⟨_, _, rfl, .inl rfl, fun h => (by cases h), (by repeat (first | with_reducible exact Below.refl _ _ | (with_reducible refine Below.drew ?_) | (with_reducible refine Below.alloc ?_ (by simp; try omega) _) | (with_reducible refine Below.setCell ?_ (by simp; try omega) _)))⟩

set_option maxRecDepth 100000 in
set_option maxHeartbeats 4000000 in
theorem mn126 (g : Nat) (w : World) (b : Nat) (v : Value) (hb : b ≠ g) (h0 : w.cell? ⟨b, 0, none⟩ = some v) (h1 : w.cell? ⟨b, 1, none⟩ = some (.int .i32 0)) (hI : IsI v) (hm : MN g w v) : MN g w (.iface 126 (.pointer (some ⟨b, 0, none⟩))) := by
  intro W hW hg
  have e0 := hW.cell hb h0
  have e1 := hW.cell hb h1
  have lb : b < W.heap.size := World.block_lt_of_cell? _ _ e0
  have hn0 := hW.1
  have HM := Lib.hid (fun (W' : World) (hb : Below W.heap.size W W') => hm W' (hW.trans (Ext.of hb)) (Nat.lt_of_lt_of_le hg hb.size))
  clear h0 h1 hm hW
  rcases hI with rfl | ⟨tt, bb, rfl⟩
  · go_enter Try.func27, Try.ntmps27
    go_wp2_with fail
    refine (HM.out _ (by repeat (first | with_reducible exact Below.refl _ _ | (with_reducible refine Below.drew ?_) | (with_reducible refine Below.alloc ?_ (by simp; try omega) _) | (with_reducible refine Below.setCell ?_ (by simp; try omega) _)))).mono ?_
    rintro e w1 ⟨d, bo, rfl, hd, hk4, hb1⟩
    have HK4 := Lib.hid (show bo = true → KPM g w.heap.size (W.heap.size + 2) w1 d 4 from fun h => by have := hk4 h; simpa using this)
    have f0 : w1.cell? ⟨W.heap.size + 1, 0, none⟩ = some .nilIface := kept hb1 (by simp [go_sem])
    have f1 : w1.cell? ⟨W.heap.size + 1, 1, none⟩ = some (.int .i32 0) := kept hb1 (by simp [go_sem])
    have z0 : w1.frozen? ⟨W.heap.size + 1, 0, none⟩ = false := keptF hb1 (o := 0) (v := .nilIface) (by simp [go_sem]) (by simp [go_sem])
    have z1 : w1.frozen? ⟨W.heap.size + 1, 1, none⟩ = false := keptF hb1 (o := 1) (v := .int .i32 0) (by simp [go_sem]) (by simp [go_sem])
    have l1 : W.heap.size + 1 < w1.heap.size := World.block_lt_of_cell? _ _ f0
    have BW := Lib.hid (show Below W.heap.size W w1 from ((by repeat (first | with_reducible exact Below.refl _ _ | (with_reducible refine Below.drew ?_) | (with_reducible refine Below.alloc ?_ (by simp; try omega) _) | (with_reducible refine Below.setCell ?_ (by simp; try omega) _))) : Below W.heap.size W _).trans (hb1.mono (by simp; try omega)))
    have hszw := BW.out.size
    clear hb1 hk4 HM
    rcases hd with rfl | ⟨td, bd, rfl⟩
    · cases bo
      · go_wp2_with fail
        exact bodyPost_ret (v := .tuple #[.agg #[.nilIface, .int .i32 0], .bool false]) (by simp [results, Try.results27, go_sem, *]) rfl ⟨_, _, rfl, (by first | exact .inl rfl | exact .inr ⟨_, _, rfl⟩), fun h => (by cases h), (by repeat (first | with_reducible exact BW.out | (with_reducible refine Below.drew ?_) | (with_reducible refine Below.alloc ?_ (by have := Below.size BW.out; simp; try omega) _) | (with_reducible refine Below.setCell ?_ (by have := Below.size BW.out; simp; try omega) _)))⟩
      · go_wp2_with fail
        exact bodyPost_ret (v := .tuple #[.agg #[.nilIface, .int .i32 0], .bool true]) (by simp [results, Try.results27, go_sem, *]) rfl ⟨_, _, rfl, (by first | exact .inl rfl | exact .inr ⟨_, _, rfl⟩), fun _ => ((HK4.out (by simp)).step (by repeat (first | with_reducible exact ExtM.refl _ _ _ _ | (with_reducible refine ExtM.drew ?_) | (with_reducible refine ExtM.alloc ?_ _) | (with_reducible refine ExtM.set ?_ (by omega) (by omega) _ _)))).low (by omega), (by repeat (first | with_reducible exact BW.out | (with_reducible refine Below.drew ?_) | (with_reducible refine Below.alloc ?_ (by have := Below.size BW.out; simp; try omega) _) | (with_reducible refine Below.setCell ?_ (by have := Below.size BW.out; simp; try omega) _)))⟩
    · cases bo
      · go_wp2_with fail
        exact bodyPost_ret (v := .tuple #[.agg #[.iface td (.pointer (some ⟨bd, 0, none⟩)), .int .i32 0], .bool false]) (by simp [results, Try.results27, go_sem, *]) rfl ⟨_, _, rfl, (by first | exact .inl rfl | exact .inr ⟨_, _, rfl⟩), fun h => (by cases h), (by repeat (first | with_reducible exact BW.out | (with_reducible refine Below.drew ?_) | (with_reducible refine Below.alloc ?_ (by have := Below.size BW.out; simp; try omega) _) | (with_reducible refine Below.setCell ?_ (by have := Below.size BW.out; simp; try omega) _)))⟩
      · go_wp2_with fail
        exact bodyPost_ret (v := .tuple #[.agg #[.iface td (.pointer (some ⟨bd, 0, none⟩)), .int .i32 0], .bool true]) (by simp [results, Try.results27, go_sem, *]) rfl ⟨_, _, rfl, (by first | exact .inl rfl | exact .inr ⟨_, _, rfl⟩), fun _ => ((HK4.out (by simp)).step (by repeat (first | with_reducible exact ExtM.refl _ _ _ _ | (with_reducible refine ExtM.drew ?_) | (with_reducible refine ExtM.alloc ?_ _) | (with_reducible refine ExtM.set ?_ (by omega) (by omega) _ _)))).low (by omega), (by repeat (first | with_reducible exact BW.out | (with_reducible refine Below.drew ?_) | (with_reducible refine Below.alloc ?_ (by have := Below.size BW.out; simp; try omega) _) | (with_reducible refine Below.setCell ?_ (by have := Below.size BW.out; simp; try omega) _)))⟩
  · go_enter Try.func27, Try.ntmps27
    go_wp2_with fail
    refine (HM.out _ (by repeat (first | with_reducible exact Below.refl _ _ | (with_reducible refine Below.drew ?_) | (with_reducible refine Below.alloc ?_ (by simp; try omega) _) | (with_reducible refine Below.setCell ?_ (by simp; try omega) _)))).mono ?_
    rintro e w1 ⟨d, bo, rfl, hd, hk4, hb1⟩
    have HK4 := Lib.hid (show bo = true → KPM g w.heap.size (W.heap.size + 2) w1 d 4 from fun h => by have := hk4 h; simpa using this)
    have f0 : w1.cell? ⟨W.heap.size + 1, 0, none⟩ = some .nilIface := kept hb1 (by simp [go_sem])
    have f1 : w1.cell? ⟨W.heap.size + 1, 1, none⟩ = some (.int .i32 0) := kept hb1 (by simp [go_sem])
    have z0 : w1.frozen? ⟨W.heap.size + 1, 0, none⟩ = false := keptF hb1 (o := 0) (v := .nilIface) (by simp [go_sem]) (by simp [go_sem])
    have z1 : w1.frozen? ⟨W.heap.size + 1, 1, none⟩ = false := keptF hb1 (o := 1) (v := .int .i32 0) (by simp [go_sem]) (by simp [go_sem])
    have l1 : W.heap.size + 1 < w1.heap.size := World.block_lt_of_cell? _ _ f0
    have BW := Lib.hid (show Below W.heap.size W w1 from ((by repeat (first | with_reducible exact Below.refl _ _ | (with_reducible refine Below.drew ?_) | (with_reducible refine Below.alloc ?_ (by simp; try omega) _) | (with_reducible refine Below.setCell ?_ (by simp; try omega) _))) : Below W.heap.size W _).trans (hb1.mono (by simp; try omega)))
    have hszw := BW.out.size
    clear hb1 hk4 HM
    rcases hd with rfl | ⟨td, bd, rfl⟩
    · cases bo
      · go_wp2_with fail
        exact bodyPost_ret (v := .tuple #[.agg #[.nilIface, .int .i32 0], .bool false]) (by simp [results, Try.results27, go_sem, *]) rfl ⟨_, _, rfl, (by first | exact .inl rfl | exact .inr ⟨_, _, rfl⟩), fun h => (by cases h), (by repeat (first | with_reducible exact BW.out | (with_reducible refine Below.drew ?_) | (with_reducible refine Below.alloc ?_ (by have := Below.size BW.out; simp; try omega) _) | (with_reducible refine Below.setCell ?_ (by have := Below.size BW.out; simp; try omega) _)))⟩
      · go_wp2_with fail
        exact bodyPost_ret (v := .tuple #[.agg #[.nilIface, .int .i32 0], .bool true]) (by simp [results, Try.results27, go_sem, *]) rfl ⟨_, _, rfl, (by first | exact .inl rfl | exact .inr ⟨_, _, rfl⟩), fun _ => ((HK4.out (by simp)).step (by repeat (first | with_reducible exact ExtM.refl _ _ _ _ | (with_reducible refine ExtM.drew ?_) | (with_reducible refine ExtM.alloc ?_ _) | (with_reducible refine ExtM.set ?_ (by omega) (by omega) _ _)))).low (by omega), (by repeat (first | with_reducible exact BW.out | (with_reducible refine Below.drew ?_) | (with_reducible refine Below.alloc ?_ (by have := Below.size BW.out; simp; try omega) _) | (with_reducible refine Below.setCell ?_ (by have := Below.size BW.out; simp; try omega) _)))⟩
    · cases bo
      · go_wp2_with fail
        exact bodyPost_ret (v := .tuple #[.agg #[.iface td (.pointer (some ⟨bd, 0, none⟩)), .int .i32 0], .bool false]) (by simp [results, Try.results27, go_sem, *]) rfl ⟨_, _, rfl, (by first | exact .inl rfl | exact .inr ⟨_, _, rfl⟩), fun h => (by cases h), (by repeat (first | with_reducible exact BW.out | (with_reducible refine Below.drew ?_) | (with_reducible refine Below.alloc ?_ (by have := Below.size BW.out; simp; try omega) _) | (with_reducible refine Below.setCell ?_ (by have := Below.size BW.out; simp; try omega) _)))⟩
      · go_wp2_with fail
        exact bodyPost_ret (v := .tuple #[.agg #[.iface td (.pointer (some ⟨bd, 0, none⟩)), .int .i32 0], .bool true]) (by simp [results, Try.results27, go_sem, *]) rfl ⟨_, _, rfl, (by first | exact .inl rfl | exact .inr ⟨_, _, rfl⟩), fun _ => ((HK4.out (by simp)).step (by repeat (first | with_reducible exact ExtM.refl _ _ _ _ | (with_reducible refine ExtM.drew ?_) | (with_reducible refine ExtM.alloc ?_ _) | (with_reducible refine ExtM.set ?_ (by omega) (by omega) _ _)))).low (by omega), (by repeat (first | with_reducible exact BW.out | (with_reducible refine Below.drew ?_) | (with_reducible refine Below.alloc ?_ (by have := Below.size BW.out; simp; try omega) _) | (with_reducible refine Below.setCell ?_ (by have := Below.size BW.out; simp; try omega) _)))⟩

set_option maxRecDepth 100000 in
set_option maxHeartbeats 4000000 in
theorem mn130 (g : Nat) (w : World) (b : Nat) (v : Value) (hb : b ≠ g) (h0 : w.cell? ⟨b, 0, none⟩ = some v) (h1 : w.cell? ⟨b, 1, none⟩ = some (.int .i32 0)) (hI : IsI v) (hm : MN g w v) : MN g w (.iface 130 (.pointer (some ⟨b, 0, none⟩))) := by
  intro W hW hg
  have e0 := hW.cell hb h0
  have e1 := hW.cell hb h1
  have lb : b < W.heap.size := World.block_lt_of_cell? _ _ e0
  have hn0 := hW.1
  have HM := Lib.hid (fun (W' : World) (hb : Below W.heap.size W W') => hm W' (hW.trans (Ext.of hb)) (Nat.lt_of_lt_of_le hg hb.size))
  clear h0 h1 hm hW
  rcases hI with rfl | ⟨tt, bb, rfl⟩
  · go_enter Try.func27, Try.ntmps27
    go_wp2_with fail
    refine (HM.out _ (by repeat (first | with_reducible exact Below.refl _ _ | (with_reducible refine Below.drew ?_) | (with_reducible refine Below.alloc ?_ (by simp; try omega) _) | (with_reducible refine Below.setCell ?_ (by simp; try omega) _)))).mono ?_
    rintro e w1 ⟨d, bo, rfl, hd, hk4, hb1⟩
    have HK4 := Lib.hid (show bo = true → KPM g w.heap.size (W.heap.size + 2) w1 d 4 from fun h => by have := hk4 h; simpa using this)
    have f0 : w1.cell? ⟨W.heap.size + 1, 0, none⟩ = some .nilIface := kept hb1 (by simp [go_sem])
    have f1 : w1.cell? ⟨W.heap.size + 1, 1, none⟩ = some (.int .i32 0) := kept hb1 (by simp [go_sem])
    have z0 : w1.frozen? ⟨W.heap.size + 1, 0, none⟩ = false := keptF hb1 (o := 0) (v := .nilIface) (by simp [go_sem]) (by simp [go_sem])
    have z1 : w1.frozen? ⟨W.heap.size + 1, 1, none⟩ = false := keptF hb1 (o := 1) (v := .int .i32 0) (by simp [go_sem]) (by simp [go_sem])
    have l1 : W.heap.size + 1 < w1.heap.size := World.block_lt_of_cell? _ _ f0
    have BW := Lib.hid (show Below W.heap.size W w1 from ((by repeat (first | with_reducible exact Below.refl _ _ | (with_reducible refine Below.drew ?_) | (with_reducible refine Below.alloc ?_ (by simp; try omega) _) | (with_reducible refine Below.setCell ?_ (by simp; try omega) _))) : Below W.heap.size W _).trans (hb1.mono (by simp; try omega)))
    have hszw := BW.out.size
    clear hb1 hk4 HM
    rcases hd with rfl | ⟨td, bd, rfl⟩
    · cases bo
      · go_wp2_with fail
        exact bodyPost_ret (v := .tuple #[.agg #[.nilIface, .int .i32 0], .bool false]) (by simp [results, Try.results27, go_sem, *]) rfl ⟨_, _, rfl, (by first | exact .inl rfl | exact .inr ⟨_, _, rfl⟩), fun h => (by cases h), (by repeat (first | with_reducible exact BW.out | (with_reducible refine Below.drew ?_) | (with_reducible refine Below.alloc ?_ (by have := Below.size BW.out; simp; try omega) _) | (with_reducible refine Below.setCell ?_ (by have := Below.size BW.out; simp; try omega) _)))⟩
      · go_wp2_with fail
        exact bodyPost_ret (v := .tuple #[.agg #[.nilIface, .int .i32 0], .bool true]) (by simp [results, Try.results27, go_sem, *]) rfl ⟨_, _, rfl, (by first | exact .inl rfl | exact .inr ⟨_, _, rfl⟩), fun _ => ((HK4.out (by simp)).step (by repeat (first | with_reducible exact ExtM.refl _ _ _ _ | (with_reducible refine ExtM.drew ?_) | (with_reducible refine ExtM.alloc ?_ _) | (with_reducible refine ExtM.set ?_ (by omega) (by omega) _ _)))).low (by omega), (by repeat (first | with_reducible exact BW.out | (with_reducible refine Below.drew ?_) | (with_reducible refine Below.alloc ?_ (by have := Below.size BW.out; simp; try omega) _) | (with_reducible refine Below.setCell ?_ (by have := Below.size BW.out; simp; try omega) _)))⟩
    · cases bo
      · go_wp2_with fail
        exact bodyPost_ret (v := .tuple #[.agg #[.nilIface, .int .i32 0], .bool false]) (by simp [results, Try.results27, go_sem, *]) rfl ⟨_, _, rfl, (by first | exact .inl rfl | exact .inr ⟨_, _, rfl⟩), fun h => (by cases h), (by repeat (first | with_reducible exact BW.out | (with_reducible refine Below.drew ?_) | (with_reducible refine Below.alloc ?_ (by have := Below.size BW.out; simp; try omega) _) | (with_reducible refine Below.setCell ?_ (by have := Below.size BW.out; simp; try omega) _)))⟩
      · go_wp2_with fail
        exact bodyPost_ret (v := .tuple #[.agg #[.iface td (.pointer (some ⟨bd, 0, none⟩)), .int .i32 0], .bool true]) (by simp [results, Try.results27, go_sem, *]) rfl ⟨_, _, rfl, (by first | exact .inl rfl | exact .inr ⟨_, _, rfl⟩), fun _ => ((HK4.out (by simp)).step (by repeat (first | with_reducible exact ExtM.refl _ _ _ _ | (with_reducible refine ExtM.drew ?_) | (with_reducible refine ExtM.alloc ?_ _) | (with_reducible refine ExtM.set ?_ (by omega) (by omega) _ _)))).low (by omega), (by repeat (first | with_reducible exact BW.out | (with_reducible refine Below.drew ?_) | (with_reducible refine Below.alloc ?_ (by have := Below.size BW.out; simp; try omega) _) | (with_reducible refine Below.setCell ?_ (by have := Below.size BW.out; simp; try omega) _)))⟩
  · go_enter Try.func27, Try.ntmps27
    go_wp2_with fail
    refine (HM.out _ (by repeat (first | with_reducible exact Below.refl _ _ | (with_reducible refine Below.drew ?_) | (with_reducible refine Below.alloc ?_ (by simp; try omega) _) | (with_reducible refine Below.setCell ?_ (by simp; try omega) _)))).mono ?_
    rintro e w1 ⟨d, bo, rfl, hd, hk4, hb1⟩
    have HK4 := Lib.hid (show bo = true → KPM g w.heap.size (W.heap.size + 2) w1 d 4 from fun h => by have := hk4 h; simpa using this)
    have f0 : w1.cell? ⟨W.heap.size + 1, 0, none⟩ = some .nilIface := kept hb1 (by simp [go_sem])
    have f1 : w1.cell? ⟨W.heap.size + 1, 1, none⟩ = some (.int .i32 0) := kept hb1 (by simp [go_sem])
    have z0 : w1.frozen? ⟨W.heap.size + 1, 0, none⟩ = false := keptF hb1 (o := 0) (v := .nilIface) (by simp [go_sem]) (by simp [go_sem])
    have z1 : w1.frozen? ⟨W.heap.size + 1, 1, none⟩ = false := keptF hb1 (o := 1) (v := .int .i32 0) (by simp [go_sem]) (by simp [go_sem])
    have l1 : W.heap.size + 1 < w1.heap.size := World.block_lt_of_cell? _ _ f0
    have BW := Lib.hid (show Below W.heap.size W w1 from ((by repeat (first | with_reducible exact Below.refl _ _ | (with_reducible refine Below.drew ?_) | (with_reducible refine Below.alloc ?_ (by simp; try omega) _) | (with_reducible refine Below.setCell ?_ (by simp; try omega) _))) : Below W.heap.size W _).trans (hb1.mono (by simp; try omega)))
    have hszw := BW.out.size
    clear hb1 hk4 HM
    rcases hd with rfl | ⟨td, bd, rfl⟩
    · cases bo
      · go_wp2_with fail
        exact bodyPost_ret (v := .tuple #[.agg #[.nilIface, .int .i32 0], .bool false]) (by simp [results, Try.results27, go_sem, *]) rfl ⟨_, _, rfl, (by first | exact .inl rfl | exact .inr ⟨_, _, rfl⟩), fun h => (by cases h), (by repeat (first | with_reducible exact BW.out | (with_reducible refine Below.drew ?_) | (with_reducible refine Below.alloc ?_ (by have := Below.size BW.out; simp; try omega) _) | (with_reducible refine Below.setCell ?_ (by have := Below.size BW.out; simp; try omega) _)))⟩
      · go_wp2_with fail
        exact bodyPost_ret (v := .tuple #[.agg #[.nilIface, .int .i32 0], .bool true]) (by simp [results, Try.results27, go_sem, *]) rfl ⟨_, _, rfl, (by first | exact .inl rfl | exact .inr ⟨_, _, rfl⟩), fun _ => ((HK4.out (by simp)).step (by repeat (first | with_reducible exact ExtM.refl _ _ _ _ | (with_reducible refine ExtM.drew ?_) | (with_reducible refine ExtM.alloc ?_ _) | (with_reducible refine ExtM.set ?_ (by omega) (by omega) _ _)))).low (by omega), (by repeat (first | with_reducible exact BW.out | (with_reducible refine Below.drew ?_) | (with_reducible refine Below.alloc ?_ (by have := Below.size BW.out; simp; try omega) _) | (with_reducible refine Below.setCell ?_ (by have := Below.size BW.out; simp; try omega) _)))⟩
    · cases bo
      · go_wp2_with fail
        exact bodyPost_ret (v := .tuple #[.agg #[.nilIface, .int .i32 0], .bool false]) (by simp [results, Try.results27, go_sem, *]) rfl ⟨_, _, rfl, (by first | exact .inl rfl | exact .inr ⟨_, _, rfl⟩), fun h => (by cases h), (by repeat (first | with_reducible exact BW.out | (with_reducible refine Below.drew ?_) | (with_reducible refine Below.alloc ?_ (by have := Below.size BW.out; simp; try omega) _) | (with_reducible refine Below.setCell ?_ (by have := Below.size BW.out; simp; try omega) _)))⟩
      · go_wp2_with fail
        exact bodyPost_ret (v := .tuple #[.agg #[.iface td (.pointer (some ⟨bd, 0, none⟩)), .int .i32 0], .bool true]) (by simp [results, Try.results27, go_sem, *]) rfl ⟨_, _, rfl, (by first | exact .inl rfl | exact .inr ⟨_, _, rfl⟩), fun _ => ((HK4.out (by simp)).step (by repeat (first | with_reducible exact ExtM.refl _ _ _ _ | (with_reducible refine ExtM.drew ?_) | (with_reducible refine ExtM.alloc ?_ _) | (with_reducible refine ExtM.set ?_ (by omega) (by omega) _ _)))).low (by omega), (by repeat (first | with_reducible exact BW.out | (with_reducible refine Below.drew ?_) | (with_reducible refine Below.alloc ?_ (by have := Below.size BW.out; simp; try omega) _) | (with_reducible refine Below.setCell ?_ (by have := Below.size BW.out; simp; try omega) _)))⟩

theorem bin4 {g n0 n1 b : Nat} {w : World} {v v' : Value} {x y op : Int} (hop : cmpOp op) (hn : n1 ≤ b) (hgb : g < b) (h0 : w.cell? ⟨b, 0, none⟩ = some v) (h1 : w.cell? ⟨b, 1, none⟩ = some (.int .i32 0)) (h2 : w.cell? ⟨b, 2, none⟩ = some v') (h3 : w.cell? ⟨b, 3, none⟩ = some (.int .i32 0)) (h4 : w.cell? ⟨b, 4, none⟩ = some (.int .u8 op)) (hk : ∀ W, ExtM g n0 n1 w W → KPis g W v x) (hk' : ∀ W, ExtM g n0 n1 w W → KPis g W v' y) : KPM g n0 n1 w (.iface 66 (.pointer (some ⟨b, 0, none⟩))) 4 := fun W hW => by
  have h := kp66 g b v v' 0 0 op x y W (by omega) (hW.cell hn h0) (hW.cell hn h1) (hW.cell hn h2) (hW.cell hn h3) (hW.cell hn h4) (hk W hW) (hk' W hW) W (Ext.refl _ _)
  rwa [show kBin op x y = 4 from if_pos hop] at h
theorem com4 {g n0 n1 b : Nat} {w : World} {v v' : Value} {x : Int} (hn : n1 ≤ b) (hgb : g < b) (h0 : w.cell? ⟨b, 0, none⟩ = some v) (h1 : w.cell? ⟨b, 1, none⟩ = some (.int .i32 0)) (h2 : w.cell? ⟨b, 2, none⟩ = some v') (h3 : w.cell? ⟨b, 3, none⟩ = some (.int .i32 0)) (h4 : w.cell? ⟨b, 4, none⟩ = some (.int .u8 36)) (hk : ∀ W, ExtM g n0 n1 w W → KPis g W v x) (hk' : ∀ W, ExtM g n0 n1 w W → KPis g W v' 4) : KPM g n0 n1 w (.iface 66 (.pointer (some ⟨b, 0, none⟩))) 4 := fun W hW => by
  have h := kp66 g b v v' 0 0 36 x 4 W (by omega) (hW.cell hn h0) (hW.cell hn h1) (hW.cell hn h2) (hW.cell hn h3) (hW.cell hn h4) (hk W hW) (hk' W hW) W (Ext.refl _ _)
  have e : kBin 36 x 4 = 4 := by simp [kBin, cmpOp, mixOp]
  rwa [e] at h

set_option maxRecDepth 100000 in
set_option maxHeartbeats 16000000 in
theorem mn66 (g : Nat) (w : World) (b : Nat) (v v' : Value) (op x y : Int) (hb : b ≠ g) (h0 : w.cell? ⟨b, 0, none⟩ = some v) (h1 : w.cell? ⟨b, 1, none⟩ = some (.int .i32 0)) (h2 : w.cell? ⟨b, 2, none⟩ = some v') (h3 : w.cell? ⟨b, 3, none⟩ = some (.int .i32 0)) (h4 : w.cell? ⟨b, 4, none⟩ = some (.int .u8 op)) (hI : IsI v) (hI' : IsI v') (hk : KPis g w v x) (hk' : KPis g w v' y) (hm : MN g w v') : MN g w (.iface 66 (.pointer (some ⟨b, 0, none⟩))) := by
  intro W hW hg
  have e0 := hW.cell hb h0
  have e1 := hW.cell hb h1
  have e2 := hW.cell hb h2
  have e3 := hW.cell hb h3
  have e4 := hW.cell hb h4
  have lb : b < W.heap.size := World.block_lt_of_cell? _ _ e0
  have HK := Lib.hid (fun (W' : World) (he : Ext g w W') => hk.ext he)
  have HK' := Lib.hid (fun (W' : World) (he : Ext g w W') => hk'.ext he)
  have HW := Lib.hid hW
  have hn0 := hW.1
  have HN := Lib.hid (fun (W' : World) (hb : Below W.heap.size W W') => nn g w v' y hI' hk' hm W' (hW.trans (Ext.of hb)) (Nat.lt_of_lt_of_le hg hb.size))
  clear h0 h1 h2 h3 h4 hk hk' hW hm
  by_cases o26 : op = 26
  · subst o26
    clear HN
    as_aux_lemma =>
      go_enter Try.func27, Try.ntmps27
      go_wp2_with fail
      obtain ⟨W0, hW0⟩ : ∃ X, X = (W.alloc (.cells #[.iface 66 (.pointer (some ⟨b, 0, none⟩)), .int .i32 0] 32)).alloc (.cells #[.nilIface, .int .i32 0] 32) := ⟨_, rfl⟩
      rw [← hW0]
      have B0 : Below W.heap.size W W0 := by rw [hW0]; exact ((Below.refl _ _).alloc (Nat.le_refl _) _).alloc (by simp) _
      have s1 : W0.cell? ⟨W.heap.size, 1, none⟩ = some (.int .i32 0) := by rw [hW0]; simp [go_sem]
      have t0 : W0.cell? ⟨W.heap.size + 1, 0, none⟩ = some .nilIface := by rw [hW0]; simp [go_sem]
      have t1 : W0.cell? ⟨W.heap.size + 1, 1, none⟩ = some (.int .i32 0) := by rw [hW0]; simp [go_sem]
      have u0 : W0.frozen? ⟨W.heap.size + 1, 0, none⟩ = false := by rw [hW0]; simp [go_sem]
      have u1 : W0.frozen? ⟨W.heap.size + 1, 1, none⟩ = false := by rw [hW0]; simp [go_sem]
      have g0 := kept B0 e0
      have g1 := kept B0 e1
      have g2 := kept B0 e2
      have g3 := kept B0 e3
      have g4 := kept B0 e4
      have zW : W0.heap.size = W.heap.size + 2 := by rw [hW0]; simp
      have lW : W.heap.size < W0.heap.size := by omega
      have lW1 : W.heap.size + 1 < W0.heap.size := by omega
      have lb0 : b < W0.heap.size := by omega
      have ZW := Lib.hid zW
      clear hW0 e0 e1 e2 e3 e4 zW
      go_region_held3 (fun w' => w'.cell? ⟨W.heap.size, 1, none⟩ = some (.int .i32 0) ∧ w'.cell? ⟨b, 0, none⟩ = some v ∧ w'.cell? ⟨b, 1, none⟩ = some (.int .i32 0) ∧ w'.cell? ⟨b, 2, none⟩ = some v' ∧ w'.cell? ⟨b, 3, none⟩ = some (.int .i32 0)) (repeat' (first | (refine And.intro ?_ ?_) | assumption | apply kDrew | apply kAlloc | (refine kSet ?_ (by omega)))) (fail)
      all_goals
        go_wp2_with fail
        exact bodyPost_ret (v := .tuple #[.agg #[.iface 66 (.pointer (some ⟨W0.heap.size, 0, none⟩)), .int .i32 0], .bool true]) (by simp [results, Try.results27, go_sem, *]) rfl ⟨_, _, rfl, .inr ⟨_, _, rfl⟩, fun _ => bin4 (op := 27) (by simp [cmpOp]) (by omega) (by omega) (by simp [go_sem]) (by simp [go_sem]) (by simp [go_sem]) (by simp [go_sem]) (by simp [go_sem]) (fun W' h' => HK.out W' (ExtM.ext (HW.out.trans (Ext.of (by repeat (first | with_reducible exact B0 | (with_reducible refine Below.drew ?_) | (with_reducible refine Below.alloc ?_ (by have := Below.size B0; simp; try omega) _) | (with_reducible refine Below.setCell ?_ (by have := Below.size B0; simp; try omega) _))))) h')) (fun W' h' => HK'.out W' (ExtM.ext (HW.out.trans (Ext.of (by repeat (first | with_reducible exact B0 | (with_reducible refine Below.drew ?_) | (with_reducible refine Below.alloc ?_ (by have := Below.size B0; simp; try omega) _) | (with_reducible refine Below.setCell ?_ (by have := Below.size B0; simp; try omega) _))))) h')), (by repeat (first | with_reducible exact B0 | (with_reducible refine Below.drew ?_) | (with_reducible refine Below.alloc ?_ (by have := Below.size B0; simp; try omega) _) | (with_reducible refine Below.setCell ?_ (by have := Below.size B0; simp; try omega) _)))⟩
  by_cases o27 : op = 27
  · subst o27
    clear HN
    as_aux_lemma =>
      go_enter Try.func27, Try.ntmps27
      go_wp2_with fail
      obtain ⟨W0, hW0⟩ : ∃ X, X = (W.alloc (.cells #[.iface 66 (.pointer (some ⟨b, 0, none⟩)), .int .i32 0] 32)).alloc (.cells #[.nilIface, .int .i32 0] 32) := ⟨_, rfl⟩
      rw [← hW0]
      have B0 : Below W.heap.size W W0 := by rw [hW0]; exact ((Below.refl _ _).alloc (Nat.le_refl _) _).alloc (by simp) _
      have s1 : W0.cell? ⟨W.heap.size, 1, none⟩ = some (.int .i32 0) := by rw [hW0]; simp [go_sem]
      have t0 : W0.cell? ⟨W.heap.size + 1, 0, none⟩ = some .nilIface := by rw [hW0]; simp [go_sem]
      have t1 : W0.cell? ⟨W.heap.size + 1, 1, none⟩ = some (.int .i32 0) := by rw [hW0]; simp [go_sem]
      have u0 : W0.frozen? ⟨W.heap.size + 1, 0, none⟩ = false := by rw [hW0]; simp [go_sem]
      have u1 : W0.frozen? ⟨W.heap.size + 1, 1, none⟩ = false := by rw [hW0]; simp [go_sem]
      have g0 := kept B0 e0
      have g1 := kept B0 e1
      have g2 := kept B0 e2
      have g3 := kept B0 e3
      have g4 := kept B0 e4
      have zW : W0.heap.size = W.heap.size + 2 := by rw [hW0]; simp
      have lW : W.heap.size < W0.heap.size := by omega
      have lW1 : W.heap.size + 1 < W0.heap.size := by omega
      have lb0 : b < W0.heap.size := by omega
      have ZW := Lib.hid zW
      clear hW0 e0 e1 e2 e3 e4 zW
      go_region_held3 (fun w' => w'.cell? ⟨W.heap.size, 1, none⟩ = some (.int .i32 0) ∧ w'.cell? ⟨b, 0, none⟩ = some v ∧ w'.cell? ⟨b, 1, none⟩ = some (.int .i32 0) ∧ w'.cell? ⟨b, 2, none⟩ = some v' ∧ w'.cell? ⟨b, 3, none⟩ = some (.int .i32 0)) (repeat' (first | (refine And.intro ?_ ?_) | assumption | apply kDrew | apply kAlloc | (refine kSet ?_ (by omega)))) (fail)
      all_goals
        go_wp2_with fail
        exact bodyPost_ret (v := .tuple #[.agg #[.iface 66 (.pointer (some ⟨W0.heap.size, 0, none⟩)), .int .i32 0], .bool true]) (by simp [results, Try.results27, go_sem, *]) rfl ⟨_, _, rfl, .inr ⟨_, _, rfl⟩, fun _ => bin4 (op := 26) (by simp [cmpOp]) (by omega) (by omega) (by simp [go_sem]) (by simp [go_sem]) (by simp [go_sem]) (by simp [go_sem]) (by simp [go_sem]) (fun W' h' => HK.out W' (ExtM.ext (HW.out.trans (Ext.of (by repeat (first | with_reducible exact B0 | (with_reducible refine Below.drew ?_) | (with_reducible refine Below.alloc ?_ (by have := Below.size B0; simp; try omega) _) | (with_reducible refine Below.setCell ?_ (by have := Below.size B0; simp; try omega) _))))) h')) (fun W' h' => HK'.out W' (ExtM.ext (HW.out.trans (Ext.of (by repeat (first | with_reducible exact B0 | (with_reducible refine Below.drew ?_) | (with_reducible refine Below.alloc ?_ (by have := Below.size B0; simp; try omega) _) | (with_reducible refine Below.setCell ?_ (by have := Below.size B0; simp; try omega) _))))) h')), (by repeat (first | with_reducible exact B0 | (with_reducible refine Below.drew ?_) | (with_reducible refine Below.alloc ?_ (by have := Below.size B0; simp; try omega) _) | (with_reducible refine Below.setCell ?_ (by have := Below.size B0; simp; try omega) _)))⟩
  by_cases o28 : op = 28
  · subst o28
    clear HN
    as_aux_lemma =>
      go_enter Try.func27, Try.ntmps27
      go_wp2_with fail
      obtain ⟨W0, hW0⟩ : ∃ X, X = (W.alloc (.cells #[.iface 66 (.pointer (some ⟨b, 0, none⟩)), .int .i32 0] 32)).alloc (.cells #[.nilIface, .int .i32 0] 32) := ⟨_, rfl⟩
      rw [← hW0]
      have B0 : Below W.heap.size W W0 := by rw [hW0]; exact ((Below.refl _ _).alloc (Nat.le_refl _) _).alloc (by simp) _
      have s1 : W0.cell? ⟨W.heap.size, 1, none⟩ = some (.int .i32 0) := by rw [hW0]; simp [go_sem]
      have t0 : W0.cell? ⟨W.heap.size + 1, 0, none⟩ = some .nilIface := by rw [hW0]; simp [go_sem]
      have t1 : W0.cell? ⟨W.heap.size + 1, 1, none⟩ = some (.int .i32 0) := by rw [hW0]; simp [go_sem]
      have u0 : W0.frozen? ⟨W.heap.size + 1, 0, none⟩ = false := by rw [hW0]; simp [go_sem]
      have u1 : W0.frozen? ⟨W.heap.size + 1, 1, none⟩ = false := by rw [hW0]; simp [go_sem]
      have g0 := kept B0 e0
      have g1 := kept B0 e1
      have g2 := kept B0 e2
      have g3 := kept B0 e3
      have g4 := kept B0 e4
      have zW : W0.heap.size = W.heap.size + 2 := by rw [hW0]; simp
      have lW : W.heap.size < W0.heap.size := by omega
      have lW1 : W.heap.size + 1 < W0.heap.size := by omega
      have lb0 : b < W0.heap.size := by omega
      have ZW := Lib.hid zW
      clear hW0 e0 e1 e2 e3 e4 zW
      go_region_held3 (fun w' => w'.cell? ⟨W.heap.size, 1, none⟩ = some (.int .i32 0) ∧ w'.cell? ⟨b, 0, none⟩ = some v ∧ w'.cell? ⟨b, 1, none⟩ = some (.int .i32 0) ∧ w'.cell? ⟨b, 2, none⟩ = some v' ∧ w'.cell? ⟨b, 3, none⟩ = some (.int .i32 0)) (repeat' (first | (refine And.intro ?_ ?_) | assumption | apply kDrew | apply kAlloc | (refine kSet ?_ (by omega)))) (fail)
      all_goals
        go_wp2_with fail
        exact bodyPost_ret (v := .tuple #[.agg #[.iface 66 (.pointer (some ⟨W0.heap.size, 0, none⟩)), .int .i32 0], .bool true]) (by simp [results, Try.results27, go_sem, *]) rfl ⟨_, _, rfl, .inr ⟨_, _, rfl⟩, fun _ => bin4 (op := 29) (by simp [cmpOp]) (by omega) (by omega) (by simp [go_sem]) (by simp [go_sem]) (by simp [go_sem]) (by simp [go_sem]) (by simp [go_sem]) (fun W' h' => HK.out W' (ExtM.ext (HW.out.trans (Ext.of (by repeat (first | with_reducible exact B0 | (with_reducible refine Below.drew ?_) | (with_reducible refine Below.alloc ?_ (by have := Below.size B0; simp; try omega) _) | (with_reducible refine Below.setCell ?_ (by have := Below.size B0; simp; try omega) _))))) h')) (fun W' h' => HK'.out W' (ExtM.ext (HW.out.trans (Ext.of (by repeat (first | with_reducible exact B0 | (with_reducible refine Below.drew ?_) | (with_reducible refine Below.alloc ?_ (by have := Below.size B0; simp; try omega) _) | (with_reducible refine Below.setCell ?_ (by have := Below.size B0; simp; try omega) _))))) h')), (by repeat (first | with_reducible exact B0 | (with_reducible refine Below.drew ?_) | (with_reducible refine Below.alloc ?_ (by have := Below.size B0; simp; try omega) _) | (with_reducible refine Below.setCell ?_ (by have := Below.size B0; simp; try omega) _)))⟩
  by_cases o29 : op = 29
  · subst o29
    clear HN
    as_aux_lemma =>
      go_enter Try.func27, Try.ntmps27
      go_wp2_with fail
      obtain ⟨W0, hW0⟩ : ∃ X, X = (W.alloc (.cells #[.iface 66 (.pointer (some ⟨b, 0, none⟩)), .int .i32 0] 32)).alloc (.cells #[.nilIface, .int .i32 0] 32) := ⟨_, rfl⟩
      rw [← hW0]
      have B0 : Below W.heap.size W W0 := by rw [hW0]; exact ((Below.refl _ _).alloc (Nat.le_refl _) _).alloc (by simp) _
      have s1 : W0.cell? ⟨W.heap.size, 1, none⟩ = some (.int .i32 0) := by rw [hW0]; simp [go_sem]
      have t0 : W0.cell? ⟨W.heap.size + 1, 0, none⟩ = some .nilIface := by rw [hW0]; simp [go_sem]
      have t1 : W0.cell? ⟨W.heap.size + 1, 1, none⟩ = some (.int .i32 0) := by rw [hW0]; simp [go_sem]
      have u0 : W0.frozen? ⟨W.heap.size + 1, 0, none⟩ = false := by rw [hW0]; simp [go_sem]
      have u1 : W0.frozen? ⟨W.heap.size + 1, 1, none⟩ = false := by rw [hW0]; simp [go_sem]
      have g0 := kept B0 e0
      have g1 := kept B0 e1
      have g2 := kept B0 e2
      have g3 := kept B0 e3
      have g4 := kept B0 e4
      have zW : W0.heap.size = W.heap.size + 2 := by rw [hW0]; simp
      have lW : W.heap.size < W0.heap.size := by omega
      have lW1 : W.heap.size + 1 < W0.heap.size := by omega
      have lb0 : b < W0.heap.size := by omega
      have ZW := Lib.hid zW
      clear hW0 e0 e1 e2 e3 e4 zW
      go_region_held3 (fun w' => w'.cell? ⟨W.heap.size, 1, none⟩ = some (.int .i32 0) ∧ w'.cell? ⟨b, 0, none⟩ = some v ∧ w'.cell? ⟨b, 1, none⟩ = some (.int .i32 0) ∧ w'.cell? ⟨b, 2, none⟩ = some v' ∧ w'.cell? ⟨b, 3, none⟩ = some (.int .i32 0)) (repeat' (first | (refine And.intro ?_ ?_) | assumption | apply kDrew | apply kAlloc | (refine kSet ?_ (by omega)))) (fail)
      all_goals
        go_wp2_with fail
        exact bodyPost_ret (v := .tuple #[.agg #[.iface 66 (.pointer (some ⟨W0.heap.size, 0, none⟩)), .int .i32 0], .bool true]) (by simp [results, Try.results27, go_sem, *]) rfl ⟨_, _, rfl, .inr ⟨_, _, rfl⟩, fun _ => bin4 (op := 28) (by simp [cmpOp]) (by omega) (by omega) (by simp [go_sem]) (by simp [go_sem]) (by simp [go_sem]) (by simp [go_sem]) (by simp [go_sem]) (fun W' h' => HK.out W' (ExtM.ext (HW.out.trans (Ext.of (by repeat (first | with_reducible exact B0 | (with_reducible refine Below.drew ?_) | (with_reducible refine Below.alloc ?_ (by have := Below.size B0; simp; try omega) _) | (with_reducible refine Below.setCell ?_ (by have := Below.size B0; simp; try omega) _))))) h')) (fun W' h' => HK'.out W' (ExtM.ext (HW.out.trans (Ext.of (by repeat (first | with_reducible exact B0 | (with_reducible refine Below.drew ?_) | (with_reducible refine Below.alloc ?_ (by have := Below.size B0; simp; try omega) _) | (with_reducible refine Below.setCell ?_ (by have := Below.size B0; simp; try omega) _))))) h')), (by repeat (first | with_reducible exact B0 | (with_reducible refine Below.drew ?_) | (with_reducible refine Below.alloc ?_ (by have := Below.size B0; simp; try omega) _) | (with_reducible refine Below.setCell ?_ (by have := Below.size B0; simp; try omega) _)))⟩
  by_cases o36 : op = 36
  · subst o36
    as_aux_lemma =>
      go_enter Try.func27, Try.ntmps27
      go_wp2_with fail
      obtain ⟨W0, hW0⟩ : ∃ X, X = (W.alloc (.cells #[.iface 66 (.pointer (some ⟨b, 0, none⟩)), .int .i32 0] 32)).alloc (.cells #[.nilIface, .int .i32 0] 32) := ⟨_, rfl⟩
      rw [← hW0]
      have B0 : Below W.heap.size W W0 := by rw [hW0]; exact ((Below.refl _ _).alloc (Nat.le_refl _) _).alloc (by simp) _
      have s1 : W0.cell? ⟨W.heap.size, 1, none⟩ = some (.int .i32 0) := by rw [hW0]; simp [go_sem]
      have t0 : W0.cell? ⟨W.heap.size + 1, 0, none⟩ = some .nilIface := by rw [hW0]; simp [go_sem]
      have t1 : W0.cell? ⟨W.heap.size + 1, 1, none⟩ = some (.int .i32 0) := by rw [hW0]; simp [go_sem]
      have u0 : W0.frozen? ⟨W.heap.size + 1, 0, none⟩ = false := by rw [hW0]; simp [go_sem]
      have u1 : W0.frozen? ⟨W.heap.size + 1, 1, none⟩ = false := by rw [hW0]; simp [go_sem]
      have g0 := kept B0 e0
      have g1 := kept B0 e1
      have g2 := kept B0 e2
      have g3 := kept B0 e3
      have g4 := kept B0 e4
      have zW : W0.heap.size = W.heap.size + 2 := by rw [hW0]; simp
      have lW : W.heap.size < W0.heap.size := by omega
      have lW1 : W.heap.size + 1 < W0.heap.size := by omega
      have lb0 : b < W0.heap.size := by omega
      have ZW := Lib.hid zW
      clear hW0 e0 e1 e2 e3 e4 zW
      go_region_held3 (fun w' => w'.cell? ⟨W.heap.size, 1, none⟩ = some (.int .i32 0) ∧ w'.cell? ⟨b, 0, none⟩ = some v ∧ w'.cell? ⟨b, 1, none⟩ = some (.int .i32 0) ∧ w'.cell? ⟨b, 2, none⟩ = some v' ∧ w'.cell? ⟨b, 3, none⟩ = some (.int .i32 0)) (repeat' (first | (refine And.intro ?_ ?_) | assumption | apply kDrew | apply kAlloc | (refine kSet ?_ (by omega)))) (first | (go_at_call 11; (with_reducible refine Calls.mono (HN.out _ ?hb) ?_); (case hb => with_reducible first | exact B0 | exact B0.drew); rintro e w1 ⟨d, rfl, hd, hk4, hb1⟩; have m1 := kept hb1 s1; have m2 := kept hb1 g0; have m3 := kept hb1 g1; have m4 := kept hb1 g2; have m5 := kept hb1 g3; have n0 := kept hb1 t0; have n1 := kept hb1 t1; have v0 := keptF hb1 t0 u0; have v1 := keptF hb1 t1 u1; have ln1 : W.heap.size + 1 < w1.heap.size := Nat.lt_of_lt_of_le lW1 hb1.size; have lnb : b < w1.heap.size := Nat.lt_of_lt_of_le lb0 hb1.size))
      all_goals
        have hk5 : KPM g w.heap.size (W.heap.size + 2) w1 d 4 := by rw [← ZW.out]; exact hk4
        have BW := Lib.hid (show Below W.heap.size W w1 from B0.drew.trans (hb1.mono B0.drew.size))
        have HK5 := Lib.hid hk5
        have hz2 := ZW.out
        have hz3 : W0.heap.size ≤ w1.heap.size := hb1.size
        have hz4 : W.heap.size + 2 ≤ w1.heap.size := by omega
        clear hk4 hk5 hb1 hz2 hz3
        go_wp2_with fail
        exact bodyPost_ret (v := .tuple #[.agg #[.iface 66 (.pointer (some ⟨w1.heap.size, 0, none⟩)), .int .i32 0], .bool true]) (by simp [results, Try.results27, go_sem, *]) rfl ⟨_, _, rfl, .inr ⟨_, _, rfl⟩, fun _ => com4 (by omega) (by omega) (by simp [go_sem]) (by simp [go_sem]) (by simp [go_sem]) (by simp [go_sem]) (by simp [go_sem]) (fun W' h' => HK.out W' (ExtM.ext (HW.out.trans (Ext.of (by repeat (first | with_reducible exact BW.out | (with_reducible refine Below.drew ?_) | (with_reducible refine Below.alloc ?_ (by have := Below.size BW.out; simp; try omega) _) | (with_reducible refine Below.setCell ?_ (by have := Below.size BW.out; simp; try omega) _))))) h')) (fun W' h' => HK5.out.is (ExtM.trans (by repeat (first | with_reducible exact ExtM.refl _ _ _ _ | (with_reducible refine ExtM.drew ?_) | (with_reducible refine ExtM.alloc ?_ _) | (with_reducible refine ExtM.set ?_ (by omega) (by omega) _ _))) (h'.up (by omega))) (by omega)), (by repeat (first | with_reducible exact BW.out | (with_reducible refine Below.drew ?_) | (with_reducible refine Below.alloc ?_ (by have := Below.size BW.out; simp; try omega) _) | (with_reducible refine Below.setCell ?_ (by have := Below.size BW.out; simp; try omega) _)))⟩
  · have p26 : (op == 26) = false := by simp [o26]
    have p27 : (op == 27) = false := by simp [o27]
    have p28 : (op == 28) = false := by simp [o28]
    have p29 : (op == 29) = false := by simp [o29]
    have p36 : (op == 36) = false := by simp [o36]
    clear o26 o27 o28 o29 o36 HN HK HK' hI hI'
    go_enter Try.func27, Try.ntmps27
    go_wp2_with fail
    exact bodyPost_ret (v := .tuple #[.agg #[.nilIface, .int .i32 0], .bool false]) (by simp [results, Try.results27, go_sem]) rfl ⟨_, _, rfl, .inl rfl, fun h => (by cases h), (by repeat (first | with_reducible exact Below.refl _ _ | (with_reducible refine Below.drew ?_) | (with_reducible refine Below.alloc ?_ (by simp; try omega) _) | (with_reducible refine Below.setCell ?_ (by simp; try omega) _)))⟩
end Go.Proofs.Ytjcblmbndkacgaa
