/- Proved here: the walk of the law FnIsJumpStatementCaseTable (isJumpStatement is true exactly for break, continue, return and throw), for every input. -/
import Derived.Test.YtckagihmmhlcaaaProg
import Derived.Test.YtckagihmmhlcaaaTA
import Derived.WalkKit
import Derived.WalkSpells
import Derived.WalkLawsBesides
import Derived.Lib.Hide
namespace Go.Proofs.Ytckagihmmhlcaaa.fnIsJumpStatementCaseTable
open Go.RowKit
set_option linter.unusedSimpArgs false
set_option linter.unusedVariables false

set_option maxRecDepth 100000 in
set_option maxHeartbeats 400000 in
theorem label_any (h : Bool) (a b c : Int) (w : World) :
    Calls Try.prog 10 #[.bool h, .int .u32 a, .int .u32 b, .int .i32 c] w fun e w' => (∃ p, e = .returned (.pointer p)) ∧ Below w.heap.size w w' := by
  cases h
  · go_enter Try.func10, Try.ntmps10
    go_wp2
    go_ret
    exact ⟨⟨_, rfl⟩, Below.refl _ _⟩
  · go_enter Try.func10, Try.ntmps10
    go_wp2
    go_ret
    exact ⟨⟨_, rfl⟩, (Below.refl _ _).alloc (Nat.le_refl _) _⟩

set_option maxRecDepth 100000 in
set_option maxHeartbeats 400000 in
theorem of_any (n : Nat) (k : Int) (p : Option Addr) (w : World) (h0 : 0 ≤ k) (h1 : k ≤ 255) (hn : n < 8) (hk : k % 8 = n) :
    Calls Try.prog 11 #[.int .u8 k, .pointer p] w fun e w' => e = .returned (.bool (decide (n < 4))) ∧ Below w.heap.size w w' := by
  rcases n with _ | _ | _ | _ | _ | _ | _ | _ | n
  case succ => omega
  all_goals
    simp only [Nat.zero_add, Nat.reduceAdd, Int.ofNat_zero, Int.cast_ofNat_Int, Int.natCast_zero, Int.natCast_one] at hk
    go_enter Try.func11, Try.ntmps11
    go_wp2
    go_ret
    exact ⟨rfl, by first | exact Below.refl _ _ | exact (Below.refl _ _).alloc (Nat.le_refl _) _⟩

theorem nat_of_wf {a : Int} (h : (Lit.int .u8 a).wf = true) : 0 ≤ a ∧ a ≤ 255 := by
  have hmin : IntKind.u8.min = 0 := rfl
  have hmax : IntKind.u8.max = 255 := rfl
  simp only [Lit.wf, Bool.and_eq_true, decide_eq_true_eq] at h
  exact ⟨by omega, by omega⟩

set_option maxRecDepth 100000 in
set_option maxHeartbeats 400000 in
theorem walk (a0 : Int) (a1 : Bool) (a2 : Int) (a3 : Int) (a4 : Int) (w : World) (w0 : (Lit.int .u8 a0).wf = true) (w2 : (Lit.int .u32 a2).wf = true) (w3 : (Lit.int .u32 a3).wf = true) (w4 : (Lit.int .i32 a4).wf = true) :
    Calls Try.prog 4 #[.int .u8 a0, .bool a1, .int .u32 a2, .int .u32 a3, .int .i32 a4] w fun e w' => e = .returned (.bool true) ∧ Below w.heap.size w w' := by
  obtain ⟨h0, h1⟩ := nat_of_wf w0
  clear w0 w2 w3 w4
  obtain ⟨n, hn⟩ := Int.eq_ofNat_of_zero_le (show 0 ≤ a0 % 8 by omega)
  have hn8 : n < 8 := by omega
  have H := Lib.hid hn
  clear hn
  go_enter Try.func4, Try.ntmps4
  go_wp2_with fail
  refine (label_any _ _ _ _ _).mono ?_
  rintro e w1 ⟨⟨p, rfl⟩, hb1⟩
  go_wp2_with fail
  refine (of_any n _ _ _ h0 h1 hn8 H.out).mono ?_
  rintro e w2 ⟨rfl, hb2⟩
  have e1 : decide (a0 % 8 < 4) = decide (n < 4) := by rw [H.out]; congr 1; simp; omega
  have E := Lib.hid e1
  clear e1
  go_wp2
  go_ret
  exact ⟨by simp [E.out], hb1.trans (hb2.mono hb1.size)⟩
end Go.Proofs.Ytckagihmmhlcaaa.fnIsJumpStatementCaseTable
