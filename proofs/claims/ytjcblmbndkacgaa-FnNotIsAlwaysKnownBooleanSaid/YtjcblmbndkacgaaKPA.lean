/- Proved here: what KnownPrimitiveType answers at each kind of node, from the node's cells and the children's answers. Conditions as stated. -/
import Derived.Test.YtjcblmbndkacgaaBase
import Derived.WalkKit
import Derived.WalkSpells
import Derived.WalkLawsBesides
import Derived.Lib.Hide
import Derived.Lib.SliceRun
import Derived.Deep.RegionWith
import Derived.Deep.RegionHeld3
import Derived.Deep.DeepCutAuto
import Derived.Deep.QuietTactic
import Derived.BigQuiet
namespace Go.Proofs.Ytjcblmbndkacgaa
open Go.RowKit
set_option linter.unusedSimpArgs false
set_option linter.unusedVariables false

/-- Every block of w but g is as it was. -/
def Ext (g : Nat) (w W : World) : Prop := w.heap.size ≤ W.heap.size ∧ ∀ b, b < w.heap.size → b ≠ g → W.heap[b]? = w.heap[b]?
theorem Ext.refl (g : Nat) (w : World) : Ext g w w := ⟨Nat.le_refl _, fun _ _ _ => rfl⟩
theorem Ext.trans {g : Nat} {a b c : World} (h1 : Ext g a b) (h2 : Ext g b c) : Ext g a c := ⟨Nat.le_trans h1.1 h2.1, fun k hk hg => (h2.2 k (Nat.lt_of_lt_of_le hk h1.1) hg).trans (h1.2 k hk hg)⟩
theorem Ext.of {g : Nat} {a b : World} (h : Below a.heap.size a b) : Ext g a b := ⟨h.size, fun k hk _ => h.block k hk⟩
theorem Ext.bel {g : Nat} {w a b : World} (h : Ext g w a) (hb : Below a.heap.size a b) : Ext g w b := h.trans (.of hb)
theorem Ext.drew {g : Nat} {w a : World} (h : Ext g w a) : Ext g w a.drew := h
theorem Ext.cell {g b o : Nat} {w W : World} {v : Value} (h : Ext g w W) (hb : b ≠ g) (hc : w.cell? ⟨b, o, none⟩ = some v) : W.cell? ⟨b, o, none⟩ = some v :=
  (World.cell?_of_block (a := ⟨b, o, none⟩) (h.2 b (World.block_lt_of_cell? _ _ hc) hb)).trans hc
def QK (t : Int) (W : World) (e : Ending) (w' : World) : Prop := e = .returned (.int .u8 t) ∧ Below W.heap.size W w'
/-- In w and in whatever extends it (but for block g) the primitive type of v is t. -/
def KPis (g : Nat) (w : World) (v : Value) (t : Int) : Prop := ∀ W, Ext g w W → Calls Try.prog 12 #[v] W (QK t W)
theorem KPis.ext {g : Nat} {w w' : World} {v : Value} {t : Int} (h : KPis g w v t) (he : Ext g w w') : KPis g w' v t := fun W hW => h W (he.trans hW)
def mg (x y : Int) : Int := if x = 0 then 0 else if y = 0 then 0 else if x = y then x else 1
def kUn (op t : Int) : Int := if op = 4 then 3 else if op = 5 then 6 else if op = 3 ∨ op = 6 then 4 else if op = 0 then 5 else if op = 1 ∨ op = 2 then (if t = 7 then 7 else if t ≠ 0 ∧ t ≠ 1 then 5 else 1) else if op = 7 ∨ op = 8 ∨ op = 9 ∨ op = 10 then 1 else 0
def kAdd (l r : Int) : Int := if l = 6 ∨ r = 6 then 6 else if l = 7 ∧ r = 7 then 7 else if l ≠ 0 ∧ l ≠ 1 ∧ l ≠ 7 ∧ r ≠ 0 ∧ r ≠ 1 ∧ r ≠ 7 then 5 else 1
def kNul (l r : Int) : Int := if l = 2 ∨ l = 3 then r else if l ≠ 0 then (if l ≠ 1 then l else if r ≠ 0 then 1 else 0) else 0
def cmpOp (op : Int) : Prop := op = 28 ∨ op = 29 ∨ op = 26 ∨ op = 27 ∨ op = 17 ∨ op = 19 ∨ op = 18 ∨ op = 20 ∨ op = 22 ∨ op = 21
def mixOp (op : Int) : Prop := op = 12 ∨ op = 39 ∨ op = 13 ∨ op = 40 ∨ op = 14 ∨ op = 41 ∨ op = 15 ∨ op = 42 ∨ op = 16 ∨ op = 43 ∨ op = 34 ∨ op = 48 ∨ op = 33 ∨ op = 47 ∨ op = 35 ∨ op = 49 ∨ op = 23 ∨ op = 44 ∨ op = 24 ∨ op = 45 ∨ op = 25 ∨ op = 46
noncomputable section
open Classical in
def kBin (op l r : Int) : Int := if cmpOp op then 4 else if op = 31 ∨ op = 32 then mg l r else if op = 30 then kNul l r else if op = 11 then kAdd l r else if op = 38 then (if r = 6 then 6 else 1) else if mixOp op then 1 else if op = 37 ∨ op = 36 then r else 0
end

set_option maxRecDepth 100000 in
set_option maxHeartbeats 4000000 in
theorem kp111 (g b : Nat) (w : World) : KPis g w (.iface 111 (.pointer (some ⟨b, 0, none⟩))) 2 := by
  intro W hW
  go_enter Try.func12, Try.ntmps12
  go_wp2_with fail
  go_ret
  exact ⟨rfl, Below.refl _ _⟩

set_option maxRecDepth 100000 in
set_option maxHeartbeats 4000000 in
theorem kp114 (g b : Nat) (w : World) : KPis g w (.iface 114 (.pointer (some ⟨b, 0, none⟩))) 3 := by
  intro W hW
  go_enter Try.func12, Try.ntmps12
  go_wp2_with fail
  go_ret
  exact ⟨rfl, Below.refl _ _⟩

set_option maxRecDepth 100000 in
set_option maxHeartbeats 4000000 in
theorem kp108 (g b : Nat) (w : World) : KPis g w (.iface 108 (.pointer (some ⟨b, 0, none⟩))) 4 := by
  intro W hW
  go_enter Try.func12, Try.ntmps12
  go_wp2_with fail
  go_ret
  exact ⟨rfl, Below.refl _ _⟩

set_option maxRecDepth 100000 in
set_option maxHeartbeats 4000000 in
theorem kp100 (g b : Nat) (w : World) : KPis g w (.iface 100 (.pointer (some ⟨b, 0, none⟩))) 5 := by
  intro W hW
  go_enter Try.func12, Try.ntmps12
  go_wp2_with fail
  go_ret
  exact ⟨rfl, Below.refl _ _⟩

set_option maxRecDepth 100000 in
set_option maxHeartbeats 4000000 in
theorem kp104 (g b : Nat) (w : World) : KPis g w (.iface 104 (.pointer (some ⟨b, 0, none⟩))) 6 := by
  intro W hW
  go_enter Try.func12, Try.ntmps12
  go_wp2_with fail
  go_ret
  exact ⟨rfl, Below.refl _ _⟩

set_option maxRecDepth 100000 in
set_option maxHeartbeats 4000000 in
theorem kp116 (g b : Nat) (w : World) : KPis g w (.iface 116 (.pointer (some ⟨b, 0, none⟩))) 7 := by
  intro W hW
  go_enter Try.func12, Try.ntmps12
  go_wp2_with fail
  go_ret
  exact ⟨rfl, Below.refl _ _⟩

set_option maxRecDepth 100000 in
set_option maxHeartbeats 4000000 in
theorem kp53 (g b : Nat) (w : World) : KPis g w (.iface 53 (.pointer (some ⟨b, 0, none⟩))) 0 := by
  intro W hW
  go_enter Try.func12, Try.ntmps12
  go_wp2_with fail
  go_ret
  exact ⟨rfl, Below.refl _ _⟩

set_option maxRecDepth 100000 in
set_option maxHeartbeats 4000000 in
theorem kp56 (g b : Nat) (w : World) : KPis g w (.iface 56 (.pointer (some ⟨b, 0, none⟩))) 0 := by
  intro W hW
  go_enter Try.func12, Try.ntmps12
  go_wp2_with fail
  go_ret
  exact ⟨rfl, Below.refl _ _⟩

set_option maxRecDepth 100000 in
set_option maxHeartbeats 4000000 in
theorem kp86 (g b : Nat) (w : World) : KPis g w (.iface 86 (.pointer (some ⟨b, 0, none⟩))) 0 := by
  intro W hW
  go_enter Try.func12, Try.ntmps12
  go_wp2_with fail
  go_ret
  exact ⟨rfl, Below.refl _ _⟩

set_option maxRecDepth 100000 in
set_option maxHeartbeats 4000000 in
theorem kp92 (g b : Nat) (w : World) : KPis g w (.iface 92 (.pointer (some ⟨b, 0, none⟩))) 0 := by
  intro W hW
  go_enter Try.func12, Try.ntmps12
  go_wp2_with fail
  go_ret
  exact ⟨rfl, Below.refl _ _⟩

set_option maxRecDepth 100000 in
set_option maxHeartbeats 4000000 in
theorem kp144 (g b : Nat) (w : World) : KPis g w (.iface 144 (.pointer (some ⟨b, 0, none⟩))) 0 := by
  intro W hW
  go_enter Try.func12, Try.ntmps12
  go_wp2_with fail
  go_ret
  exact ⟨rfl, Below.refl _ _⟩

set_option maxRecDepth 100000 in
set_option maxHeartbeats 4000000 in
theorem kp156 (g b : Nat) (w : World) : KPis g w (.iface 156 (.pointer (some ⟨b, 0, none⟩))) 0 := by
  intro W hW
  go_enter Try.func12, Try.ntmps12
  go_wp2_with fail
  go_ret
  exact ⟨rfl, Below.refl _ _⟩

set_option maxRecDepth 100000 in
set_option maxHeartbeats 4000000 in
theorem kp159 (g b : Nat) (w : World) : KPis g w (.iface 159 (.pointer (some ⟨b, 0, none⟩))) 0 := by
  intro W hW
  go_enter Try.func12, Try.ntmps12
  go_wp2_with fail
  go_ret
  exact ⟨rfl, Below.refl _ _⟩

set_option maxRecDepth 100000 in
set_option maxHeartbeats 4000000 in
theorem kpnil (g : Nat) (w : World) : KPis g w .nilIface 0 := by
  intro W hW
  go_enter Try.func12, Try.ntmps12
  go_wp2_with fail
  go_ret
  exact ⟨rfl, Below.refl _ _⟩

set_option maxRecDepth 100000 in
set_option maxHeartbeats 4000000 in
theorem kp126 (g b : Nat) (v : Value) (x : Int) (w : World) (hb : b ≠ g) (hc : w.cell? ⟨b, 0, none⟩ = some (v)) (hv : KPis g w v x) : KPis g w (.iface 126 (.pointer (some ⟨b, 0, none⟩))) x := by
  intro W hW
  have c0 := hW.cell hb hc
  have HV := Lib.hid (hv W hW)
  clear hc hv
  go_enter Try.func12, Try.ntmps12
  go_wp2_with fail
  refine HV.out.mono ?_
  rintro e w' ⟨rfl, hb⟩
  have HB := Lib.hid hb
  clear hb
  go_wp2_with fail
  go_ret
  exact ⟨rfl, HB.out⟩

set_option maxRecDepth 100000 in
set_option maxHeartbeats 4000000 in
theorem kp130 (g b : Nat) (v : Value) (x : Int) (w : World) (hb : b ≠ g) (hc : w.cell? ⟨b, 0, none⟩ = some (v)) (hv : KPis g w v x) : KPis g w (.iface 130 (.pointer (some ⟨b, 0, none⟩))) x := by
  intro W hW
  have c0 := hW.cell hb hc
  have HV := Lib.hid (hv W hW)
  clear hc hv
  go_enter Try.func12, Try.ntmps12
  go_wp2_with fail
  refine HV.out.mono ?_
  rintro e w' ⟨rfl, hb⟩
  have HB := Lib.hid hb
  clear hb
  go_wp2_with fail
  go_ret
  exact ⟨rfl, HB.out⟩

set_option maxRecDepth 100000 in
set_option maxHeartbeats 4000000 in
theorem kp133n (g b : Nat) (w : World) (hb : b ≠ g) (hc : w.cell? ⟨b, 0, none⟩ = some (.nilIface)) : KPis g w (.iface 133 (.pointer (some ⟨b, 0, none⟩))) 6 := by
  intro W hW
  have c0 := hW.cell hb hc
  clear hc
  go_enter Try.func12, Try.ntmps12
  go_wp2_with fail
  go_ret
  exact ⟨rfl, Below.refl _ _⟩

set_option maxRecDepth 100000 in
set_option maxHeartbeats 4000000 in
theorem kp133 (g b : Nat) (t : TypeId) (d : Value) (w : World) (hb : b ≠ g) (hc : w.cell? ⟨b, 0, none⟩ = some (.iface t d)) : KPis g w (.iface 133 (.pointer (some ⟨b, 0, none⟩))) 0 := by
  intro W hW
  have c0 := hW.cell hb hc
  clear hc
  go_enter Try.func12, Try.ntmps12
  go_wp2_with fail
  go_ret
  exact ⟨rfl, Below.refl _ _⟩

set_option maxRecDepth 100000 in
set_option maxHeartbeats 4000000 in
theorem merged (g : Nat) (v v' : Value) (n n' x y : Int) (w W : World) (hW : Ext g w W) (hv : KPis g w v x) (hv' : KPis g w v' y) : Calls Try.prog 14 #[.agg #[v, .int .i32 n], .agg #[v', .int .i32 n']] W (QK (mg x y) W) := by
  have e1 : Below W.heap.size W ((W.alloc (.cells #[v, .int .i32 n] 32)).alloc (.cells #[v', .int .i32 n'] 32)) := ((Below.refl _ _).alloc (Nat.le_refl _) _).alloc (by simp) _
  have HV := Lib.hid (hv _ (hW.bel e1))
  have HV' := Lib.hid hv'
  have HW := Lib.hid hW
  have E1 := Lib.hid e1
  clear hv hv' hW e1
  go_enter Try.func14, Try.ntmps14
  go_wp2_with fail
  refine HV.out.mono ?_
  rintro e w1 ⟨rfl, hb⟩
  have B1 := Lib.hid (E1.out.trans (hb.mono (E1.out.size)))
  have c2 : w1.cell? ⟨W.heap.size + 1, 0, none⟩ = some v' := kept hb (by simp [go_sem])
  have HV2 := Lib.hid (HV'.out w1 (HW.out.bel B1.out))
  clear hb HV
  by_cases hx : x = 0
  · subst hx
    go_wp2_with fail
    go_ret
    exact ⟨rfl, B1.out⟩
  go_wp2_with fail
  refine HV2.out.mono ?_
  rintro e w2 ⟨rfl, hb⟩
  have B2 := Lib.hid (B1.out.trans (hb.mono B1.out.size))
  clear hb HV2 c2
  by_cases hy : y = 0
  · subst hy
    go_wp2_with fail
    go_ret
    exact ⟨by simp [mg], B2.out⟩
  by_cases hxy : x = y
  · subst hxy
    go_wp2_with fail
    go_ret
    exact ⟨by simp [mg, hx], B2.out⟩
  go_wp2_with fail
  go_ret
  exact ⟨by simp [mg, hx, hy, hxy], B2.out⟩
end Go.Proofs.Ytjcblmbndkacgaa
