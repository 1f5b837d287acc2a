/- Proved here: the makers of case values that are not hashed. Conditions as stated. -/
import Derived.Test.YtjlmaingeobgeaaDoorDLA
import Derived.WalkKit
import Derived.WalkSpells
import Derived.WalkLawsBesides
import Derived.Lib.Hide
import Derived.Lib.SliceRun
import Derived.Deep.RegionWith
import Derived.OwnWalk
import Derived.Laws.OwnMore
import Derived.Deep.QuietTactic
import Derived.BigQuiet
import Derived.BigRegion
namespace Go.Proofs.YtjlmaingeobgeaaDoor
open Go.RowKit
set_option linter.unusedSimpArgs false
set_option linter.unusedVariables false

theorem mkArr (w : World) : Calls Tryd.prog 50 #[] w fun e w' => ∃ p, e = .returned (.agg #[.iface 255 (.pointer (some ⟨p, 0, none⟩)), .int .i32 0]) ∧ True ∧ Below w.heap.size w w' := by
  go_enter Tryd.func50, Tryd.ntmps50
  go_wp2_with fail
  exact bodyPost_ret (v := .agg #[.iface 255 (.pointer (some ⟨w.heap.size + 1, 0, none⟩)), .int .i32 0]) (by simp [results, Tryd.results50, go_sem]) rfl ⟨w.heap.size + 1, rfl, trivial, (by repeat (first | with_reducible exact Below.refl _ _ | (with_reducible refine Below.drew ?_) | (with_reducible refine Below.alloc ?_ (by simp; try omega) _) | (with_reducible refine Below.setCell ?_ (by simp; try omega) _)))⟩

theorem mkNull (w : World) : Calls Tryd.prog 53 #[] w fun e w' => ∃ p, e = .returned (.agg #[.iface 281 (.pointer (some ⟨p, 0, none⟩)), .int .i32 0]) ∧ True ∧ Below w.heap.size w w' := by
  go_enter Tryd.func53, Tryd.ntmps53
  go_wp2_with fail
  exact bodyPost_ret (v := .agg #[.iface 281 (.pointer (some ⟨w.heap.size + 1, 0, none⟩)), .int .i32 0]) (by simp [results, Tryd.results53, go_sem]) rfl ⟨w.heap.size + 1, rfl, trivial, (by repeat (first | with_reducible exact Below.refl _ _ | (with_reducible refine Below.drew ?_) | (with_reducible refine Below.alloc ?_ (by simp; try omega) _) | (with_reducible refine Below.setCell ?_ (by simp; try omega) _)))⟩

theorem mkEnum (t q : Nat) (w : World) : Calls Tryd.prog 54 #[.agg #[.iface t (.pointer (some ⟨q, 0, none⟩)), .int .i32 0]] w fun e w' => ∃ p, e = .returned (.agg #[.iface 278 (.pointer (some ⟨p, 0, none⟩)), .int .i32 0]) ∧ w'.cell? ⟨p, 0, none⟩ = some (.iface t (.pointer (some ⟨q, 0, none⟩))) ∧ w'.cell? ⟨p, 1, none⟩ = some (.int .i32 0) ∧ Below w.heap.size w w' := by
  go_enter Tryd.func54, Tryd.ntmps54
  go_wp2_with fail
  exact bodyPost_ret (v := .agg #[.iface 278 (.pointer (some ⟨w.heap.size + 1 + 1, 0, none⟩)), .int .i32 0]) (by simp [results, Tryd.results54, go_sem]) rfl ⟨w.heap.size + 1 + 1, rfl, by simp [go_sem], by simp [go_sem], (by repeat (first | with_reducible exact Below.refl _ _ | (with_reducible refine Below.drew ?_) | (with_reducible refine Below.alloc ?_ (by simp; try omega) _) | (with_reducible refine Below.setCell ?_ (by simp; try omega) _)))⟩

theorem mkDot (t q : Nat) (s : ByteArray) (w : World) : Calls Tryd.prog 51 #[.agg #[.iface t (.pointer (some ⟨q, 0, none⟩)), .int .i32 0], .string s] w fun e w' => ∃ p, e = .returned (.agg #[.iface 262 (.pointer (some ⟨p, 0, none⟩)), .int .i32 0]) ∧ w'.cell? ⟨p, 0, none⟩ = some (.iface t (.pointer (some ⟨q, 0, none⟩))) ∧ w'.cell? ⟨p, 1, none⟩ = some (.int .i32 0) ∧ Below w.heap.size w w' := by
  go_enter Tryd.func51, Tryd.ntmps51
  go_wp2_with fail
  exact bodyPost_ret (v := .agg #[.iface 262 (.pointer (some ⟨w.heap.size + 1 + 1, 0, none⟩)), .int .i32 0]) (by simp [results, Tryd.results51, go_sem]) rfl ⟨w.heap.size + 1 + 1, rfl, by simp [go_sem], by simp [go_sem], (by repeat (first | with_reducible exact Below.refl _ _ | (with_reducible refine Below.drew ?_) | (with_reducible refine Below.alloc ?_ (by simp; try omega) _) | (with_reducible refine Below.setCell ?_ (by simp; try omega) _)))⟩

theorem mkIdx (t q t' r : Nat) (w : World) : Calls Tryd.prog 52 #[.agg #[.iface t (.pointer (some ⟨q, 0, none⟩)), .int .i32 0], .agg #[.iface t' (.pointer (some ⟨r, 0, none⟩)), .int .i32 0]] w fun e w' => ∃ p, e = .returned (.agg #[.iface 296 (.pointer (some ⟨p, 0, none⟩)), .int .i32 0]) ∧ w'.cell? ⟨p, 0, none⟩ = some (.iface t (.pointer (some ⟨q, 0, none⟩))) ∧ w'.cell? ⟨p, 1, none⟩ = some (.int .i32 0) ∧ w'.cell? ⟨p, 2, none⟩ = some (.iface t' (.pointer (some ⟨r, 0, none⟩))) ∧ w'.cell? ⟨p, 3, none⟩ = some (.int .i32 0) ∧ Below w.heap.size w w' := by
  go_enter Tryd.func52, Tryd.ntmps52
  go_wp2_with fail
  exact bodyPost_ret (v := .agg #[.iface 296 (.pointer (some ⟨w.heap.size + 1 + 1 + 1, 0, none⟩)), .int .i32 0]) (by simp [results, Tryd.results52, go_sem]) rfl ⟨w.heap.size + 1 + 1 + 1, rfl, by simp [go_sem], by simp [go_sem], by simp [go_sem], by simp [go_sem], (by repeat (first | with_reducible exact Below.refl _ _ | (with_reducible refine Below.drew ?_) | (with_reducible refine Below.alloc ?_ (by simp; try omega) _) | (with_reducible refine Below.setCell ?_ (by simp; try omega) _)))⟩

set_option maxRecDepth 100000 in
set_option maxHeartbeats 1000000 in
theorem junk (k : Int) (w : World) (h0 : 0 ≤ k) (h1 : k ≤ 255) : Calls Tryd.prog 22 #[.int .u8 k] w (JP w) := by
  have hk : k % 5 = 0 ∨ k % 5 = 1 ∨ k % 5 = 2 ∨ k % 5 = 3 ∨ k % 5 = 4 := by omega
  rcases hk with hk | hk | hk | hk | hk
  · go_enter Tryd.func22, Tryd.ntmps22
    go_wp2_with fail
    refine (mkArr _).mono ?_
    rintro e V ⟨p, rfl, _, hb⟩
    have B := Lib.hid (show Below (w.alloc (.cells #[.nilIface, .int .i32 0] 35)).heap.size (w.alloc (.cells #[.nilIface, .int .i32 0] 35)) V from hb)
    clear hb
    have zB := B.out.size
    simp at zB
    have d0 : V.cell? ⟨w.heap.size, 0, none⟩ = some .nilIface := by rw [B.out.cell (by simp)]; simp [go_sem]
    have d1 : V.cell? ⟨w.heap.size, 1, none⟩ = some (.int .i32 0) := by rw [B.out.cell (by simp)]; simp [go_sem]
    have f0 : V.frozen? ⟨w.heap.size, 0, none⟩ = false := by rw [B.out.frozen (by simp)]; simp [go_sem]
    have f1 : V.frozen? ⟨w.heap.size, 1, none⟩ = false := by rw [B.out.frozen (by simp)]; simp [go_sem]
    have BW := Lib.hid (show Below w.heap.size w V from ((Below.refl _ _).alloc (Nat.le_refl _) _ : Below w.heap.size w (w.alloc (.cells #[.nilIface, .int .i32 0] 35))).trans (B.out.mono (by simp)))
    have hlt : w.heap.size < V.heap.size := by omega
    have END := Lib.hid (show JP w (.returned (.agg #[.iface 255 (.pointer (some ⟨p, 0, none⟩)), .int .i32 0])) ((V.setCell ⟨w.heap.size, 0, none⟩ (.iface 255 (.pointer (some ⟨p, 0, none⟩)))).setCell ⟨w.heap.size, 1, none⟩ (.int .i32 0)) from ⟨255, p, rfl, fun W _ => hashArr p W, (BW.out.setCell (Nat.le_refl _) _).setCell (Nat.le_refl _) _⟩)
    clear B
    go_wp2_with fail
    exact bodyPost_ret (v := .agg #[.iface 255 (.pointer (some ⟨p, 0, none⟩)), .int .i32 0]) (by simp [results, Tryd.results22, go_sem, *]) rfl END.out
  · go_enter Tryd.func22, Tryd.ntmps22
    go_wp2_with fail
    refine (mkArr _).mono ?_
    rintro e V1 ⟨q, rfl, _, hb⟩
    have B := Lib.hid (show Below (w.alloc (.cells #[.nilIface, .int .i32 0] 35)).heap.size (w.alloc (.cells #[.nilIface, .int .i32 0] 35)) V1 from hb)
    clear hb
    go_wp2_with fail
    refine (mkDot 255 q _ _).mono ?_
    rintro e V ⟨p, rfl, c0, c1, hb⟩
    have B := Lib.hid (bel2 B.out (show Below V1.heap.size V1 V from hb))
    clear hb
    have np : p ≠ w.heap.size := by
      rintro rfl
      have e0 : V.cell? ⟨w.heap.size, 0, none⟩ = some .nilIface := by rw [B.out.cell (by simp)]; simp [go_sem]
      rw [c0] at e0
      cases e0
    have zB := B.out.size
    simp at zB
    have d0 : V.cell? ⟨w.heap.size, 0, none⟩ = some .nilIface := by rw [B.out.cell (by simp)]; simp [go_sem]
    have d1 : V.cell? ⟨w.heap.size, 1, none⟩ = some (.int .i32 0) := by rw [B.out.cell (by simp)]; simp [go_sem]
    have f0 : V.frozen? ⟨w.heap.size, 0, none⟩ = false := by rw [B.out.frozen (by simp)]; simp [go_sem]
    have f1 : V.frozen? ⟨w.heap.size, 1, none⟩ = false := by rw [B.out.frozen (by simp)]; simp [go_sem]
    have BW := Lib.hid (show Below w.heap.size w V from ((Below.refl _ _).alloc (Nat.le_refl _) _ : Below w.heap.size w (w.alloc (.cells #[.nilIface, .int .i32 0] 35))).trans (B.out.mono (by simp)))
    have hlt : w.heap.size < V.heap.size := by omega
    have END := Lib.hid (show JP w (.returned (.agg #[.iface 262 (.pointer (some ⟨p, 0, none⟩)), .int .i32 0])) ((V.setCell ⟨w.heap.size, 0, none⟩ (.iface 262 (.pointer (some ⟨p, 0, none⟩)))).setCell ⟨w.heap.size, 1, none⟩ (.int .i32 0)) from ⟨262, p, rfl, fun W hW => hashDot p q W (kept hW (kSet (kSet c0 np) np)) (kept hW (kSet (kSet c1 np) np)), (BW.out.setCell (Nat.le_refl _) _).setCell (Nat.le_refl _) _⟩)
    clear B
    go_wp2_with fail
    exact bodyPost_ret (v := .agg #[.iface 262 (.pointer (some ⟨p, 0, none⟩)), .int .i32 0]) (by simp [results, Tryd.results22, go_sem, *]) rfl END.out
  · go_enter Tryd.func22, Tryd.ntmps22
    go_wp2_with fail
    refine (mkArr _).mono ?_
    rintro e V1 ⟨q, rfl, _, hb⟩
    have B := Lib.hid (show Below (w.alloc (.cells #[.nilIface, .int .i32 0] 35)).heap.size (w.alloc (.cells #[.nilIface, .int .i32 0] 35)) V1 from hb)
    clear hb
    go_wp2_with fail
    refine (mkNull _).mono ?_
    rintro e V2 ⟨r, rfl, _, hb⟩
    have B := Lib.hid (bel2 B.out (show Below V1.heap.size V1 V2 from hb))
    clear hb
    go_wp2_with fail
    refine (mkIdx 255 q 281 r _).mono ?_
    rintro e V ⟨p, rfl, c0, c1, c2, c3, hb⟩
    have B := Lib.hid (bel2 B.out (show Below V2.heap.size V2 V from hb))
    clear hb
    have np : p ≠ w.heap.size := by
      rintro rfl
      have e0 : V.cell? ⟨w.heap.size, 0, none⟩ = some .nilIface := by rw [B.out.cell (by simp)]; simp [go_sem]
      rw [c0] at e0
      cases e0
    have zB := B.out.size
    simp at zB
    have d0 : V.cell? ⟨w.heap.size, 0, none⟩ = some .nilIface := by rw [B.out.cell (by simp)]; simp [go_sem]
    have d1 : V.cell? ⟨w.heap.size, 1, none⟩ = some (.int .i32 0) := by rw [B.out.cell (by simp)]; simp [go_sem]
    have f0 : V.frozen? ⟨w.heap.size, 0, none⟩ = false := by rw [B.out.frozen (by simp)]; simp [go_sem]
    have f1 : V.frozen? ⟨w.heap.size, 1, none⟩ = false := by rw [B.out.frozen (by simp)]; simp [go_sem]
    have BW := Lib.hid (show Below w.heap.size w V from ((Below.refl _ _).alloc (Nat.le_refl _) _ : Below w.heap.size w (w.alloc (.cells #[.nilIface, .int .i32 0] 35))).trans (B.out.mono (by simp)))
    have hlt : w.heap.size < V.heap.size := by omega
    have END := Lib.hid (show JP w (.returned (.agg #[.iface 296 (.pointer (some ⟨p, 0, none⟩)), .int .i32 0])) ((V.setCell ⟨w.heap.size, 0, none⟩ (.iface 296 (.pointer (some ⟨p, 0, none⟩)))).setCell ⟨w.heap.size, 1, none⟩ (.int .i32 0)) from ⟨296, p, rfl, fun W hW => hashIdxA p q W (kept hW (kSet (kSet c0 np) np)) (kept hW (kSet (kSet c1 np) np)), (BW.out.setCell (Nat.le_refl _) _).setCell (Nat.le_refl _) _⟩)
    clear B
    go_wp2_with fail
    exact bodyPost_ret (v := .agg #[.iface 296 (.pointer (some ⟨p, 0, none⟩)), .int .i32 0]) (by simp [results, Tryd.results22, go_sem, *]) rfl END.out
  · go_enter Tryd.func22, Tryd.ntmps22
    go_wp2_with fail
    refine (mkNull _).mono ?_
    rintro e V1 ⟨q, rfl, _, hb⟩
    have B := Lib.hid (show Below (w.alloc (.cells #[.nilIface, .int .i32 0] 35)).heap.size (w.alloc (.cells #[.nilIface, .int .i32 0] 35)) V1 from hb)
    clear hb
    go_wp2_with fail
    refine (mkArr _).mono ?_
    rintro e V2 ⟨r, rfl, _, hb⟩
    have B := Lib.hid (bel2 B.out (show Below V1.heap.size V1 V2 from hb))
    clear hb
    go_wp2_with fail
    refine (mkIdx 281 q 255 r _).mono ?_
    rintro e V ⟨p, rfl, c0, c1, c2, c3, hb⟩
    have B := Lib.hid (bel2 B.out (show Below V2.heap.size V2 V from hb))
    clear hb
    have np : p ≠ w.heap.size := by
      rintro rfl
      have e0 : V.cell? ⟨w.heap.size, 0, none⟩ = some .nilIface := by rw [B.out.cell (by simp)]; simp [go_sem]
      rw [c0] at e0
      cases e0
    have zB := B.out.size
    simp at zB
    have d0 : V.cell? ⟨w.heap.size, 0, none⟩ = some .nilIface := by rw [B.out.cell (by simp)]; simp [go_sem]
    have d1 : V.cell? ⟨w.heap.size, 1, none⟩ = some (.int .i32 0) := by rw [B.out.cell (by simp)]; simp [go_sem]
    have f0 : V.frozen? ⟨w.heap.size, 0, none⟩ = false := by rw [B.out.frozen (by simp)]; simp [go_sem]
    have f1 : V.frozen? ⟨w.heap.size, 1, none⟩ = false := by rw [B.out.frozen (by simp)]; simp [go_sem]
    have BW := Lib.hid (show Below w.heap.size w V from ((Below.refl _ _).alloc (Nat.le_refl _) _ : Below w.heap.size w (w.alloc (.cells #[.nilIface, .int .i32 0] 35))).trans (B.out.mono (by simp)))
    have hlt : w.heap.size < V.heap.size := by omega
    have END := Lib.hid (show JP w (.returned (.agg #[.iface 296 (.pointer (some ⟨p, 0, none⟩)), .int .i32 0])) ((V.setCell ⟨w.heap.size, 0, none⟩ (.iface 296 (.pointer (some ⟨p, 0, none⟩)))).setCell ⟨w.heap.size, 1, none⟩ (.int .i32 0)) from ⟨296, p, rfl, fun W hW => hashIdxN p q r W (kept hW (kSet (kSet c0 np) np)) (kept hW (kSet (kSet c1 np) np)) (kept hW (kSet (kSet c2 np) np)) (kept hW (kSet (kSet c3 np) np)), (BW.out.setCell (Nat.le_refl _) _).setCell (Nat.le_refl _) _⟩)
    clear B
    go_wp2_with fail
    exact bodyPost_ret (v := .agg #[.iface 296 (.pointer (some ⟨p, 0, none⟩)), .int .i32 0]) (by simp [results, Tryd.results22, go_sem, *]) rfl END.out
  · go_enter Tryd.func22, Tryd.ntmps22
    go_wp2_with fail
    refine (mkArr _).mono ?_
    rintro e V1 ⟨q, rfl, _, hb⟩
    have B := Lib.hid (show Below (w.alloc (.cells #[.nilIface, .int .i32 0] 35)).heap.size (w.alloc (.cells #[.nilIface, .int .i32 0] 35)) V1 from hb)
    clear hb
    go_wp2_with fail
    refine (mkEnum 255 q _).mono ?_
    rintro e V ⟨p, rfl, c0, c1, hb⟩
    have B := Lib.hid (bel2 B.out (show Below V1.heap.size V1 V from hb))
    clear hb
    have np : p ≠ w.heap.size := by
      rintro rfl
      have e0 : V.cell? ⟨w.heap.size, 0, none⟩ = some .nilIface := by rw [B.out.cell (by simp)]; simp [go_sem]
      rw [c0] at e0
      cases e0
    have zB := B.out.size
    simp at zB
    have d0 : V.cell? ⟨w.heap.size, 0, none⟩ = some .nilIface := by rw [B.out.cell (by simp)]; simp [go_sem]
    have d1 : V.cell? ⟨w.heap.size, 1, none⟩ = some (.int .i32 0) := by rw [B.out.cell (by simp)]; simp [go_sem]
    have f0 : V.frozen? ⟨w.heap.size, 0, none⟩ = false := by rw [B.out.frozen (by simp)]; simp [go_sem]
    have f1 : V.frozen? ⟨w.heap.size, 1, none⟩ = false := by rw [B.out.frozen (by simp)]; simp [go_sem]
    have BW := Lib.hid (show Below w.heap.size w V from ((Below.refl _ _).alloc (Nat.le_refl _) _ : Below w.heap.size w (w.alloc (.cells #[.nilIface, .int .i32 0] 35))).trans (B.out.mono (by simp)))
    have hlt : w.heap.size < V.heap.size := by omega
    have END := Lib.hid (show JP w (.returned (.agg #[.iface 278 (.pointer (some ⟨p, 0, none⟩)), .int .i32 0])) ((V.setCell ⟨w.heap.size, 0, none⟩ (.iface 278 (.pointer (some ⟨p, 0, none⟩)))).setCell ⟨w.heap.size, 1, none⟩ (.int .i32 0)) from ⟨278, p, rfl, fun W hW => hashEnum p q W (kept hW (kSet (kSet c0 np) np)) (kept hW (kSet (kSet c1 np) np)), (BW.out.setCell (Nat.le_refl _) _).setCell (Nat.le_refl _) _⟩)
    clear B
    go_wp2_with fail
    exact bodyPost_ret (v := .agg #[.iface 278 (.pointer (some ⟨p, 0, none⟩)), .int .i32 0]) (by simp [results, Tryd.results22, go_sem, *]) rfl END.out
end Go.Proofs.YtjlmaingeobgeaaDoor
