/- Proved here: the walk of the law FnLocAfterOpOrderFree (the position behind a binary operator does not depend on the operands' order), for every input. -/
import Derived.Test.YtckagihmmhlcaaaProg
import Derived.WalkKit
import Derived.WalkSpells
import Derived.WalkLawsBesides
import Derived.Lib.Hide
import Derived.Deep.QuietTactic
import Derived.BigQuiet
namespace Go.Proofs.Ytckagihmmhlcaaa.fnLocAfterOpOrderFree
open Go.RowKit
set_option linter.unusedSimpArgs false
set_option linter.unusedVariables false

@[go_sem] theorem field37 (x : Value) (w : World) : (Instr.field 37 (.agg #[x]) 0).run Try.prog w = .ok x w := by kernel_rfl

theorem below_drewN {B : Nat} {a w : World} (h : Below B a w) (n : Nat) : Below B a (w.drewN n) := ⟨h.os, h.tape, h.output, h.size, h.block⟩

set_option maxRecDepth 100000 in
set_option maxHeartbeats 400000 in
theorem loc_any (b : Nat) (l r : Int) (w : World) (hl : w.cell? ⟨b, 1, none⟩ = some (.int .i32 l)) (hr : w.cell? ⟨b, 3, none⟩ = some (.int .i32 r)) (hb : b < w.heap.size) :
    Calls Try.prog 27 #[.pointer (some ⟨b, 0, none⟩)] w fun e w' => e = .returned (.agg #[.int .i32 (if l < r then r else l)]) ∧ Below w.heap.size w w' := by
  by_cases h : l < r
  · rw [if_pos h]
    go_enter Try.func27, Try.ntmps27
    go_wp2
    go_quiet (fail)
    go_wp2
    exact bodyPost_ret (v := .agg #[.int .i32 r]) (by simp [results, Try.results27, go_sem]) rfl ⟨rfl, (below_drewN ((Below.refl _ _).alloc (Nat.le_refl _) _) _).setCell (Nat.le_refl _) _⟩
  · rw [if_neg h]
    go_enter Try.func27, Try.ntmps27
    go_wp2
    go_quiet (fail)
    go_wp2
    exact bodyPost_ret (v := .agg #[.int .i32 l]) (by simp [results, Try.results27, go_sem]) rfl ⟨rfl, (below_drewN ((Below.refl _ _).alloc (Nat.le_refl _) _) _).setCell (Nat.le_refl _) _⟩

set_option maxRecDepth 100000 in
set_option maxHeartbeats 400000 in
theorem new_any (l r : Int) (w : World) :
    Calls Try.prog 14 #[.int .i32 l, .int .i32 r] w fun e w' => e = .returned (.pointer (some ⟨w.heap.size, 0, none⟩)) ∧ Below w.heap.size w w' ∧ w.heap.size < w'.heap.size ∧
      w'.cell? ⟨w.heap.size, 1, none⟩ = some (.int .i32 l) ∧ w'.cell? ⟨w.heap.size, 3, none⟩ = some (.int .i32 r) := by
  go_enter Try.func14, Try.ntmps14
  go_wp2_with fail
  go_ret
  exact ⟨rfl, (Below.refl _ _).alloc (Nat.le_refl _) _, by simp, by simp [go_sem], by simp [go_sem]⟩



set_option maxRecDepth 100000 in
set_option maxHeartbeats 400000 in
theorem after_lt (b : Nat) (l r : Int) (w : World) (h : l < r) (hl : w.cell? ⟨b, 1, none⟩ = some (.int .i32 l)) (hr : w.cell? ⟨b, 3, none⟩ = some (.int .i32 r)) (hb : b < w.heap.size) :
    Calls Try.prog 13 #[.pointer (some ⟨b, 0, none⟩)] w fun e w' => e = .returned (.int .i32 r) ∧ Below w.heap.size w w' := by
  have C := loc_any b l r w hl hr hb
  rw [if_pos h] at C
  have C' := Lib.hid C
  clear C
  go_enter Try.func13, Try.ntmps13
  go_wp2_with fail
  refine C'.out.mono ?_
  rintro e w1 ⟨rfl, hb1⟩
  go_wp2_with fail
  go_ret
  exact ⟨rfl, hb1⟩

set_option maxRecDepth 100000 in
set_option maxHeartbeats 400000 in
theorem after_ge (b : Nat) (l r : Int) (w : World) (h : r ≤ l) (hl : w.cell? ⟨b, 1, none⟩ = some (.int .i32 l)) (hr : w.cell? ⟨b, 3, none⟩ = some (.int .i32 r)) (hb : b < w.heap.size) :
    Calls Try.prog 13 #[.pointer (some ⟨b, 0, none⟩)] w fun e w' => e = .returned (.int .i32 l) ∧ Below w.heap.size w w' := by
  have C := loc_any b l r w hl hr hb
  rw [if_neg (by omega)] at C
  have C' := Lib.hid C
  clear C
  go_enter Try.func13, Try.ntmps13
  go_wp2_with fail
  refine C'.out.mono ?_
  rintro e w1 ⟨rfl, hb1⟩
  go_wp2_with fail
  go_ret
  exact ⟨rfl, hb1⟩

theorem four {w w1 w2 w3 w4 : World} (hb1 : Below w.heap.size w w1) (hb2 : Below w1.heap.size w1 w2) (hb3 : Below w2.heap.size w2 w3) (hb4 : Below w3.heap.size w3 w4) : Below w.heap.size w w4 :=
  ((hb1.trans (hb2.mono hb1.size)).trans (hb3.mono (by have := hb1.size; have := hb2.size; omega))).trans (hb4.mono (by have := hb1.size; have := hb2.size; have := hb3.size; omega))

set_option maxRecDepth 100000 in
set_option maxHeartbeats 400000 in
theorem walk (a0 : Int) (a1 : Int) (w : World) (w0 : (Lit.int .i32 a0).wf = true) (w1 : (Lit.int .i32 a1).wf = true) :
    Calls Try.prog 5 #[.int .i32 a0, .int .i32 a1] w fun e w' => e = .returned (.bool true) ∧ Below w.heap.size w w' := by
  clear w0 w1
  rcases Int.lt_trichotomy a0 a1 with h | h | h
  · have h' : (a1 == a0) = false := by simp; omega
    go_enter Try.func5, Try.ntmps5
    go_wp2_with fail
    refine (new_any _ _ _).mono ?_
    rintro e w1 ⟨rfl, hb1, hz1, hl1, hr1⟩
    go_wp2_with fail
    refine (after_lt _ _ _ _ h hl1 hr1 hz1).mono ?_
    rintro e w2 ⟨rfl, hb2⟩
    clear hl1 hr1
    go_wp2_with fail
    refine (new_any _ _ _).mono ?_
    rintro e w3 ⟨rfl, hb3, hz3, hl3, hr3⟩
    go_wp2_with fail
    refine (after_ge _ _ _ _ (by omega) hl3 hr3 hz3).mono ?_
    rintro e w4 ⟨rfl, hb4⟩
    clear hl3 hr3
    go_wp2_with fail
    go_ret
    exact ⟨rfl, four hb1 hb2 hb3 hb4⟩
  · subst h
    go_enter Try.func5, Try.ntmps5
    go_wp2_with fail
    refine (new_any _ _ _).mono ?_
    rintro e w1 ⟨rfl, hb1, hz1, hl1, hr1⟩
    go_wp2_with fail
    refine (after_ge _ _ _ _ (by omega) hl1 hr1 hz1).mono ?_
    rintro e w2 ⟨rfl, hb2⟩
    clear hl1 hr1
    go_wp2_with fail
    refine (new_any _ _ _).mono ?_
    rintro e w3 ⟨rfl, hb3, hz3, hl3, hr3⟩
    go_wp2_with fail
    refine (after_ge _ _ _ _ (by omega) hl3 hr3 hz3).mono ?_
    rintro e w4 ⟨rfl, hb4⟩
    clear hl3 hr3
    go_wp2_with fail
    go_ret
    exact ⟨rfl, four hb1 hb2 hb3 hb4⟩
  · go_enter Try.func5, Try.ntmps5
    go_wp2_with fail
    refine (new_any _ _ _).mono ?_
    rintro e w1 ⟨rfl, hb1, hz1, hl1, hr1⟩
    go_wp2_with fail
    refine (after_ge _ _ _ _ (by omega) hl1 hr1 hz1).mono ?_
    rintro e w2 ⟨rfl, hb2⟩
    clear hl1 hr1
    go_wp2_with fail
    refine (new_any _ _ _).mono ?_
    rintro e w3 ⟨rfl, hb3, hz3, hl3, hr3⟩
    go_wp2_with fail
    refine (after_lt _ _ _ _ h hl3 hr3 hz3).mono ?_
    rintro e w4 ⟨rfl, hb4⟩
    clear hl3 hr3
    go_wp2_with fail
    go_ret
    exact ⟨by simp; omega, four hb1 hb2 hb3 hb4⟩
end Go.Proofs.Ytckagihmmhlcaaa.fnLocAfterOpOrderFree
