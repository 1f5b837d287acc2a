/- Proved here: what KnownPrimitiveType answers at an if, at a unary and at a binary node, from the node's cells and the children's answers. Conditions as stated. -/
import Derived.Test.YtjcblmbndkacgaaKPA
import Derived.WalkKit
import Derived.WalkSpells
import Derived.WalkLawsBesides
import Derived.Lib.Hide
import Derived.Lib.SliceRun
import Derived.Deep.RegionWith
import Derived.Deep.RegionHeld3
import Derived.Deep.DeepCutAuto
import Derived.Deep.QuietTactic
import Derived.BigQuiet
namespace Go.Proofs.Ytjcblmbndkacgaa
open Go.RowKit
set_option linter.unusedSimpArgs false
set_option linter.unusedVariables false

set_option maxRecDepth 100000 in
set_option maxHeartbeats 4000000 in
theorem kp123 (g b : Nat) (v v' : Value) (n n' x y : Int) (w : World) (hb : b ≠ g) (h2 : w.cell? ⟨b, 2, none⟩ = some (v)) (h3 : w.cell? ⟨b, 3, none⟩ = some (.int .i32 n)) (h4 : w.cell? ⟨b, 4, none⟩ = some (v')) (h5 : w.cell? ⟨b, 5, none⟩ = some (.int .i32 n')) (hv : KPis g w v x) (hv' : KPis g w v' y) : KPis g w (.iface 123 (.pointer (some ⟨b, 0, none⟩))) (mg x y) := by
  intro W hW
  have c2 := hW.cell hb h2
  have c3 := hW.cell hb h3
  have c4 := hW.cell hb h4
  have c5 := hW.cell hb h5
  have lb : b < W.heap.size := World.block_lt_of_cell? _ _ c2
  have HM := Lib.hid (merged g v v' n n' x y w W.drew hW hv hv')
  clear h2 h3 h4 h5 hv hv'
  go_enter Try.func12, Try.ntmps12
  go_wp2_with fail
  go_region_held3 (fun w' => w'.cell? ⟨b, 2, none⟩ = some (v) ∧ w'.cell? ⟨b, 3, none⟩ = some (.int .i32 n) ∧ w'.cell? ⟨b, 4, none⟩ = some (v') ∧ w'.cell? ⟨b, 5, none⟩ = some (.int .i32 n')) (repeat' (first | (refine And.intro ?_ ?_) | assumption | apply kAlloc | apply kDrew)) ((go_at_call 14; refine HM.out.mono ?_; rintro e w8 ⟨rfl, hb8⟩; have m2 : w8.cell? ⟨b, 2, none⟩ = some (v) := kept hb8 c2; have m3 : w8.cell? ⟨b, 3, none⟩ = some (.int .i32 n) := kept hb8 c3; have m4 : w8.cell? ⟨b, 4, none⟩ = some (v') := kept hb8 c4; have m5 : w8.cell? ⟨b, 5, none⟩ = some (.int .i32 n') := kept hb8 c5))
  all_goals
    have HB := Lib.hid (show Below W.heap.size W w8 from (Below.refl _ _).drew.trans hb8)
    clear hb8
    go_wp2_with fail
    go_ret
    exact ⟨rfl, HB.out⟩

set_option maxRecDepth 100000 in
set_option maxHeartbeats 4000000 in
theorem kp119 (g b : Nat) (v : Value) (op x : Int) (w : World) (hb : b ≠ g) (h0 : w.cell? ⟨b, 0, none⟩ = some (v)) (h2 : w.cell? ⟨b, 2, none⟩ = some (.int .u8 op)) (hv : KPis g w v x) : KPis g w (.iface 119 (.pointer (some ⟨b, 0, none⟩))) (kUn op x) := by
  intro W hW
  have c0 := hW.cell hb h0
  have c2 := hW.cell hb h2
  have HV := Lib.hid (hv W hW)
  clear h0 h2 hv
  go_enter Try.func12, Try.ntmps12
  by_cases e4 : op = 4
  · subst e4; go_wp2_with fail; go_ret; exact ⟨rfl, Below.refl _ _⟩
  by_cases e5 : op = 5
  · subst e5; go_wp2_with fail; go_ret; exact ⟨rfl, Below.refl _ _⟩
  by_cases e3 : op = 3
  · subst e3; go_wp2_with fail; go_ret; exact ⟨rfl, Below.refl _ _⟩
  by_cases e6 : op = 6
  · subst e6; go_wp2_with fail; go_ret; exact ⟨rfl, Below.refl _ _⟩
  by_cases e0 : op = 0
  · subst e0; go_wp2_with fail; go_ret; exact ⟨rfl, Below.refl _ _⟩
  by_cases e12 : op = 1 ∨ op = 2
  · rcases e12 with e1 | e1 <;> subst e1
    all_goals
      go_wp2_with fail
      refine HV.out.mono ?_
      rintro e w' ⟨rfl, hb⟩
      have HB := Lib.hid hb
      clear hb
      by_cases x7 : x = 7
      · subst x7; go_wp2_with fail; go_ret; exact ⟨rfl, HB.out⟩
      by_cases x0 : x = 0
      · subst x0; go_wp2_with fail; go_ret; exact ⟨rfl, HB.out⟩
      by_cases x1 : x = 1
      · subst x1; go_wp2_with fail; go_ret; exact ⟨rfl, HB.out⟩
      go_wp2_with fail
      all_goals first | (exfalso; first | omega | (simp_all; done)) | (go_ret; exact ⟨by simp [kUn, x7, x0, x1], HB.out⟩)
  have e1 : ¬ op = 1 := fun h => e12 (.inl h)
  have e2 : ¬ op = 2 := fun h => e12 (.inr h)
  by_cases e7 : op = 7
  · subst e7; go_wp2_with fail; go_ret; exact ⟨rfl, Below.refl _ _⟩
  by_cases e8 : op = 8
  · subst e8; go_wp2_with fail; go_ret; exact ⟨rfl, Below.refl _ _⟩
  by_cases e9 : op = 9
  · subst e9; go_wp2_with fail; go_ret; exact ⟨rfl, Below.refl _ _⟩
  by_cases e10 : op = 10
  · subst e10; go_wp2_with fail; go_ret; exact ⟨rfl, Below.refl _ _⟩
  go_wp2_with fail
  all_goals first | (exfalso; first | omega | (simp_all; done)) | (go_ret; exact ⟨by simp [kUn, *], Below.refl _ _⟩)
end Go.Proofs.Ytjcblmbndkacgaa
