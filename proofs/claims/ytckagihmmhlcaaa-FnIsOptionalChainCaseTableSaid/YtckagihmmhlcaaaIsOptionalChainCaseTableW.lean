/- Proved here: the walk of the law FnIsOptionalChainCaseTable (IsOptionalChain over twenty built expression shapes), for every input. -/
import Derived.Test.YtckagihmmhlcaaaIsOptionalChainBuild
import Derived.WalkKit
import Derived.WalkSpells
import Derived.WalkLawsBesides
import Derived.Lib.Hide
namespace Go.Proofs.Ytckagihmmhlcaaa.fnIsOptionalChainCaseTable
open Go.RowKit
set_option linter.unusedSimpArgs false
set_option linter.unusedVariables false

set_option maxRecDepth 100000 in
set_option maxHeartbeats 400000 in
theorem chain_other (d : Value) (l : Int) (w : World) (h : Other d w) :
    Calls Try.prog 16 #[.agg #[d, .int .i32 l]] w fun e w' => e = .returned (.bool false) ∧ Below w.heap.size w w' := by
  rcases h with rfl | ⟨t, v, rfl, n1, n2, n3⟩
  · go_enter Try.func16, Try.ntmps16
    go_wp2
    go_ret
    exact ⟨rfl, (Below.refl _ _).alloc (Nat.le_refl _) _⟩
  · go_enter Try.func16, Try.ntmps16
    go_wp2
    go_ret
    exact ⟨rfl, (Below.refl _ _).alloc (Nat.le_refl _) _⟩

set_option maxRecDepth 100000 in
set_option maxHeartbeats 400000 in
theorem chain_dot (d : Value) (c l : Int) (w : World) (h : Node 79 4 c d w) :
    Calls Try.prog 16 #[.agg #[d, .int .i32 l]] w fun e w' => e = .returned (.bool (c != 0)) ∧ Below w.heap.size w w' := by
  obtain ⟨b, rfl, hc⟩ := h
  have hlt : b < w.heap.size := World.block_lt_of_cell? _ _ hc
  go_enter Try.func16, Try.ntmps16
  go_wp2
  go_ret
  exact ⟨rfl, (Below.refl _ _).alloc (Nat.le_refl _) _⟩

set_option maxRecDepth 100000 in
set_option maxHeartbeats 400000 in
theorem chain_index (d : Value) (c l : Int) (w : World) (h : Node 83 5 c d w) :
    Calls Try.prog 16 #[.agg #[d, .int .i32 l]] w fun e w' => e = .returned (.bool (c != 0)) ∧ Below w.heap.size w w' := by
  obtain ⟨b, rfl, hc⟩ := h
  have hlt : b < w.heap.size := World.block_lt_of_cell? _ _ hc
  go_enter Try.func16, Try.ntmps16
  go_wp2
  go_ret
  exact ⟨rfl, (Below.refl _ _).alloc (Nat.le_refl _) _⟩

set_option maxRecDepth 100000 in
set_option maxHeartbeats 400000 in
theorem chain_call (d : Value) (c l : Int) (w : World) (h : Node 86 4 c d w) :
    Calls Try.prog 16 #[.agg #[d, .int .i32 l]] w fun e w' => e = .returned (.bool (c != 0)) ∧ Below w.heap.size w w' := by
  obtain ⟨b, rfl, hc⟩ := h
  have hlt : b < w.heap.size := World.block_lt_of_cell? _ _ hc
  go_enter Try.func16, Try.ntmps16
  go_wp2
  go_ret
  exact ⟨rfl, (Below.refl _ _).alloc (Nat.le_refl _) _⟩

theorem nat_of_wf {a : Int} (h : (Lit.int .u8 a).wf = true) : 0 ≤ a ∧ a ≤ 255 := by
  have hmin : IntKind.u8.min = 0 := rfl
  have hmax : IntKind.u8.max = 255 := rfl
  simp only [Lit.wf, Bool.and_eq_true, decide_eq_true_eq] at h
  exact ⟨by omega, by omega⟩

set_option maxRecDepth 100000 in
set_option maxHeartbeats 400000 in
theorem walk (a0 : Int) (a1 : Int) (a2 : Bool) (a3 : Nat) (a4 : Int) (w : World) (w0 : (Lit.int .u8 a0).wf = true) (w1 : (Lit.int .u8 a1).wf = true) (w3 : (Lit.float .f64 a3).wf = true) (w4 : (Lit.int .i32 a4).wf = true) :
    Calls Try.prog 6 #[.int .u8 a0, .int .u8 a1, .bool a2, .float .f64 a3, .int .i32 a4] w fun e w' => e = .returned (.bool true) ∧ Below w.heap.size w w' := by
  obtain ⟨h0, h1⟩ := nat_of_wf w0
  clear w0 w1 w3 w4
  obtain ⟨n, hn⟩ := Int.eq_ofNat_of_zero_le (show 0 ≤ a0 % 20 by omega)
  have hn20 : n < 20 := by omega
  have B := Lib.hid (build_all n a0 a1 a2 a3 a4 w h0 h1 hn20 hn)
  by_cases c7 : n = 7
  · subst c7
    clear hn20
    go_enter Try.func6, Try.ntmps6
    go_wp2_with fail
    refine B.out.mono ?_
    rintro e w1 ⟨d, rfl, hd, hb⟩
    obtain ⟨b, rfl, hc⟩ : Node 79 4 a1 d w1 := hd
    have hlt := World.block_lt_of_cell? _ _ hc
    have hlt : b < w1.heap.size := hlt
    go_wp2_with fail
    refine (chain_dot _ a1 _ _ ⟨b, rfl, by simp [go_sem, hc, hlt]⟩).mono ?_
    rintro e w2 ⟨rfl, hb2⟩
    go_wp2_with fail
    go_ret
    exact ⟨by simp, hb.trans ((Below.alloc (Below.refl _ _) (Nat.le_refl _) _).trans (hb2.mono (by simp)) |>.mono hb.size)⟩
  · by_cases c8 : n = 8
    · subst c8
      clear hn20
      go_enter Try.func6, Try.ntmps6
      go_wp2_with fail
      refine B.out.mono ?_
      rintro e w1 ⟨d, rfl, hd, hb⟩
      obtain ⟨b, rfl, hc⟩ : Node 83 5 a1 d w1 := hd
      have hlt := World.block_lt_of_cell? _ _ hc
      have hlt : b < w1.heap.size := hlt
      go_wp2_with fail
      refine (chain_index _ a1 _ _ ⟨b, rfl, by simp [go_sem, hc, hlt]⟩).mono ?_
      rintro e w2 ⟨rfl, hb2⟩
      go_wp2_with fail
      go_ret
      exact ⟨by simp, hb.trans ((Below.alloc (Below.refl _ _) (Nat.le_refl _) _).trans (hb2.mono (by simp)) |>.mono hb.size)⟩
    · by_cases c9 : n = 9
      · subst c9
        clear hn20
        go_enter Try.func6, Try.ntmps6
        go_wp2_with fail
        refine B.out.mono ?_
        rintro e w1 ⟨d, rfl, hd, hb⟩
        obtain ⟨b, rfl, hc⟩ : Node 86 4 a1 d w1 := hd
        have hlt := World.block_lt_of_cell? _ _ hc
        have hlt : b < w1.heap.size := hlt
        go_wp2_with fail
        refine (chain_call _ a1 _ _ ⟨b, rfl, by simp [go_sem, hc, hlt]⟩).mono ?_
        rintro e w2 ⟨rfl, hb2⟩
        go_wp2_with fail
        go_ret
        exact ⟨by simp, hb.trans ((Below.alloc (Below.refl _ _) (Nat.le_refl _) _).trans (hb2.mono (by simp)) |>.mono hb.size)⟩
      · have d7 : (a0 % 20 == 7) = false := by simp; omega
        have d8 : (a0 % 20 == 8) = false := by simp; omega
        have d9 : (a0 % 20 == 9) = false := by simp; omega
        have HO : OkOf n a1 = Other := by simp [OkOf, c7, c8, c9]
        have HH := Lib.hid HO
        clear HO hn20 hn c7 c8 c9
        go_enter Try.func6, Try.ntmps6
        go_wp2_with fail
        refine B.out.mono ?_
        rintro e w1 ⟨d, rfl, hd, hb⟩
        rw [HH.out] at hd
        rcases hd with rfl | ⟨t, v, rfl, n1, n2, n3⟩
        · go_wp2_with fail
          refine (chain_other _ _ _ (Or.inl rfl)).mono ?_
          rintro e w2 ⟨rfl, hb2⟩
          go_wp2_with fail
          go_ret
          exact ⟨by simp, hb.trans ((Below.alloc (Below.refl _ _) (Nat.le_refl _) _).trans (hb2.mono (by simp)) |>.mono hb.size)⟩
        · go_wp2_with fail
          refine (chain_other _ _ _ (Or.inr ⟨t, v, rfl, n1, n2, n3⟩)).mono ?_
          rintro e w2 ⟨rfl, hb2⟩
          go_wp2_with fail
          go_ret
          exact ⟨by simp, hb.trans ((Below.alloc (Below.refl _ _) (Nat.le_refl _) _).trans (hb2.mono (by simp)) |>.mono hb.size)⟩
end Go.Proofs.Ytckagihmmhlcaaa.fnIsOptionalChainCaseTable
