/- Proved here: the walk of the law FnCheckEqualityLiteralsSymmetric, for every input. -/
import Derived.Test.YtgghakmfcodojaaCQB
import Derived.WalkKit
import Derived.WalkSpells
import Derived.WalkLawsBesides
import Derived.Lib.Hide
import Derived.Lib.SliceRun
import Derived.Deep.RegionWith
import Derived.Deep.QuietTactic
import Derived.BigQuiet
namespace Go.Proofs.Ytgghakmfcodojaa.fnCheckEqualityLiteralsSymmetric
open Go.RowKit Go.Proofs.Ytgghakmfcodojaa.Cq
set_option linter.unusedSimpArgs false
set_option linter.unusedVariables false

theorem rowBelow {k : IntKind} {w w1 : World} {a : Option Addr} {len cap : Nat} {zs : List Int} (h : IsRow k w a len cap zs) (hb : Below w.heap.size w w1) : IsRow k w1 a len cap zs := by
  rcases h with h | ⟨x, e1, e2, e3, e4, hc, hw⟩
  · exact .inl h
  · refine .inr ⟨x, e1, e2, e3, e4, fun i hi => ?_, hw⟩
    have := hc i hi
    obtain ⟨b, off, rfl⟩ := spot_none (hc 0 (by omega))
    rw [add_none] at this ⊢
    exact kept hb this

theorem cmp_int (a b : Int) : (compare a b == Ordering.eq) = (compare b a == Ordering.eq) := by
  rw [Bool.eq_iff_iff, beq_iff_eq, beq_iff_eq, Int.compare_eq_eq, Int.compare_eq_eq]
  exact eq_comm
theorem cmp_nat (a b : Nat) : (compare a b == Ordering.eq) = (compare b a == Ordering.eq) := by
  rw [Bool.eq_iff_iff, beq_iff_eq, beq_iff_eq, Nat.compare_eq_eq, Nat.compare_eq_eq]
  exact eq_comm
theorem some_eq (o : Ordering) : ((some o : Option Ordering) == some .eq) = (o == .eq) := by cases o <;> rfl
theorem dord (d e : Ieee.Datum) : (d.order e == some .eq) = (e.order d == some .eq) := by
  cases d with
  | nan s t => cases e <;> rfl
  | infinity s =>
    cases e with
    | nan _ _ => rfl
    | infinity t => simp only [Ieee.Datum.order, some_eq]; exact cmp_nat _ _
    | number t n j => cases s <;> rfl
  | number s m i =>
    cases e with
    | nan _ _ => rfl
    | infinity t => cases t <;> rfl
    | number t n j =>
      simp only [Ieee.Datum.order, some_eq]
      rw [Int.min_comm j i]
      exact cmp_int _ _
theorem feq_comm (x y : Nat) : (FloatKind.f64.format.order x y == some .eq) = (FloatKind.f64.format.order y x == some .eq) := dord _ _
theorem beqL (a b : List UInt8) : (a == b) = (b == a) := by
  rw [Bool.eq_iff_iff, beq_iff_eq, beq_iff_eq]
  exact eq_comm
theorem cr_comm (st : Bool) (k x : Nat) (b : Bool) (s : ByteArray) (n : Nat) (zs : List Int) (k' x' : Nat) (b' : Bool) (s' : ByteArray) (n' : Nat) (zs' : List Int) (hk : k ≤ 5) (hk' : k' ≤ 5) : cr st k x b s n zs k' x' b' s' n' zs' = cr st k' x' b' s' n' zs' k x b s n zs := by
  by_cases e : k = k'
  · subst e
    unfold cr
    rw [beqL s.toList s'.toList, feq_comm x x', ueq_comm n n', Bool.and_comm (canon s), Bool.beq_comm (a := b)]
    simp only [and_comm]
    repeat' split
    all_goals first | rfl | (exfalso; omega)
  · unfold cr
    repeat' split
    all_goals first | rfl | (exfalso; omega)

set_option maxRecDepth 100000 in
set_option maxHeartbeats 1000000 in
theorem long (a0 : Bool) (a1 : Int) (a2 : Bool) (a3 : Nat) (a4 : ByteArray) (a5 : Option Addr) (len5 cap5 : Nat) (z5 : List Int) (a6 : Int) (a7 : Bool) (a8 : Nat) (a9 : ByteArray) (a10 : Option Addr) (len10 cap10 : Nat) (z10 : List Int) (w : World) (w1 : (Lit.int .u8 a1).wf = true) (w3 : (Lit.float .f64 a3).wf = true) (w4 : a4.size ≤ maxLen) (w5 : IsRow .u16 w a5 len5 cap5 z5) (w6 : (Lit.int .u8 a6).wf = true) (w8 : (Lit.float .f64 a8).wf = true) (w9 : a9.size ≤ maxLen) (w10 : IsRow .u16 w a10 len10 cap10 z10) (h : 1048576 < 2 * len5 + 2 * len10 + a4.size + a9.size) :
    Calls Try.prog 5 #[.bool a0, .int .u8 a1, .bool a2, .float .f64 a3, .string a4, .slice a5 len5 cap5, .int .u8 a6, .bool a7, .float .f64 a8, .string a9, .slice a10 len10 cap10] w fun e w' => e = .returned (.bool true) ∧ Below w.heap.size w w' := by
  obtain ⟨l5, _⟩ := len_ints w5
  obtain ⟨l10, _⟩ := len_ints w10
  unfold maxLen at *
  have m6 : len5 ≤ 9223372036854775807 := by omega
  have m7 : len10 ≤ 9223372036854775807 := by omega
  clear w1 w3 w5 w6 w8 w10
  by_cases c1 : a4.size ≤ 1048576
  · by_cases c2 : a9.size ≤ 1048576
    · by_cases c3 : len5 ≤ 524288
      · by_cases c4 : len10 ≤ 524288
        · go_enter Try.func5, Try.ntmps5
          go_wp2_with fail
          refine (some16 _ _ _ _ _ _ _ _ _ _ _ _ _ _ _ _ (by omega) (by omega) (by omega) (by omega)).mono ?_
          rintro e w' ⟨b, rfl, rfl⟩
          cases b
          · go_wp2_with fail
            go_ret
            exact ⟨rfl, Below.refl _ _⟩
          · go_wp2_with fail
            go_ret
            exact ⟨rfl, Below.refl _ _⟩
        · go_enter Try.func5, Try.ntmps5
          go_wp2_with fail
          refine (some16 _ _ _ _ _ _ _ _ _ _ _ _ _ _ _ _ (by omega) (by omega) (by omega) (by omega)).mono ?_
          rintro e w' ⟨b, rfl, rfl⟩
          cases b
          · go_wp2_with fail
            go_ret
            exact ⟨rfl, Below.refl _ _⟩
          · go_wp2_with fail
            go_ret
            exact ⟨rfl, Below.refl _ _⟩
      · go_enter Try.func5, Try.ntmps5
        go_wp2_with fail
        refine (some16 _ _ _ _ _ _ _ _ _ _ _ _ _ _ _ _ (by omega) (by omega) (by omega) (by omega)).mono ?_
        rintro e w' ⟨b, rfl, rfl⟩
        cases b
        · go_wp2_with fail
          go_ret
          exact ⟨rfl, Below.refl _ _⟩
        · go_wp2_with fail
          go_ret
          exact ⟨rfl, Below.refl _ _⟩
    · go_enter Try.func5, Try.ntmps5
      go_wp2_with fail
      refine (some16 _ _ _ _ _ _ _ _ _ _ _ _ _ _ _ _ (by omega) (by omega) (by omega) (by omega)).mono ?_
      rintro e w' ⟨b, rfl, rfl⟩
      cases b
      · go_wp2_with fail
        go_ret
        exact ⟨rfl, Below.refl _ _⟩
      · go_wp2_with fail
        go_ret
        exact ⟨rfl, Below.refl _ _⟩
  · go_enter Try.func5, Try.ntmps5
    go_wp2_with fail
    refine (some16 _ _ _ _ _ _ _ _ _ _ _ _ _ _ _ _ (by omega) (by omega) (by omega) (by omega)).mono ?_
    rintro e w' ⟨b, rfl, rfl⟩
    cases b
    · go_wp2_with fail
      go_ret
      exact ⟨rfl, Below.refl _ _⟩
    · go_wp2_with fail
      go_ret
      exact ⟨rfl, Below.refl _ _⟩

set_option maxRecDepth 100000 in
set_option maxHeartbeats 8000000 in
theorem walk (a0 : Bool) (a1 : Int) (a2 : Bool) (a3 : Nat) (a4 : ByteArray) (a5 : Option Addr) (len5 cap5 : Nat) (z5 : List Int) (a6 : Int) (a7 : Bool) (a8 : Nat) (a9 : ByteArray) (a10 : Option Addr) (len10 cap10 : Nat) (z10 : List Int) (w : World) (w1 : (Lit.int .u8 a1).wf = true) (w3 : (Lit.float .f64 a3).wf = true) (w4 : a4.size ≤ maxLen) (w5 : IsRow .u16 w a5 len5 cap5 z5) (w6 : (Lit.int .u8 a6).wf = true) (w8 : (Lit.float .f64 a8).wf = true) (w9 : a9.size ≤ maxLen) (w10 : IsRow .u16 w a10 len10 cap10 z10) :
    Calls Try.prog 5 #[.bool a0, .int .u8 a1, .bool a2, .float .f64 a3, .string a4, .slice a5 len5 cap5, .int .u8 a6, .bool a7, .float .f64 a8, .string a9, .slice a10 len10 cap10] w fun e w' => e = .returned (.bool true) ∧ Below w.heap.size w w' := by
  by_cases h : 2 * len5 + 2 * len10 + a4.size + a9.size ≤ 1048576
  case neg => exact long a0 a1 a2 a3 a4 a5 len5 cap5 z5 a6 a7 a8 a9 a10 len10 cap10 z10  w w1 w3 w4 w5 w6 w8 w9 w10 (by omega)
  obtain ⟨x0, x1⟩ := wf_u8 w1
  obtain ⟨y0, y1⟩ := wf_u8 w6
  have W5 := Lib.hid w5
  have W10 := Lib.hid w10
  clear w1 w3 w4 w5 w6 w8 w9 w10
  go_enter Try.func5, Try.ntmps5
  go_wp2_with fail
  refine (yes16 _ _ _ _ _ _ _ _ _ _ _ _ _ _ _ _ (by omega)).mono ?_
  rintro e w' ⟨rfl, rfl⟩
  go_wp2_with fail
  refine (cpB_any a5 len5 cap5 z5 _ W5.out (by omega)).mono ?_
  rintro e v1 ⟨p5, q5, rfl, s5, hb1⟩
  have S5 := Lib.hid s5
  have W10' := Lib.hid (rowBelow W10.out hb1)
  have V1 := Lib.hid hb1
  clear s5 W5 W10 hb1
  go_wp2_with fail
  refine (cpB_any a10 len10 cap10 z10 _ W10'.out (by omega)).mono ?_
  rintro e v2 ⟨p10, q10, rfl, s10, hb2⟩
  have S10 := Lib.hid (show RowV v2 p10 len10 (fun i => .int .u16 (uAt z10 i)) from s10)
  have S5' := Lib.hid (show RowV v2 p5 len5 (fun i => .int .u16 (uAt z5 i)) from S5.out.below hb2)
  have V2 := Lib.hid (bel2 V1.out hb2)
  clear s10 S5 W10' hb2 V1
  go_wp2_with fail
  refine (lit_any a1 a3 a2 a4 p5 len5 q5 _ x0 x1).mono ?_
  rintro e v3 ⟨p, rfl, hp, _, hb3⟩
  have CA := Lib.hid hp
  have R5 := Lib.hid (S5'.out.below hb3)
  have R10 := Lib.hid (S10.out.below hb3)
  have V3 := Lib.hid (bel2 V2.out hb3)
  clear hp S5' S10 hb3 V2
  obtain ⟨T, hT⟩ : ∃ T, T = cty (a1 % 6).toNat := ⟨_, rfl⟩
  rw [← hT]
  have HT := Lib.hid hT
  clear hT
  go_wp2_with fail
  refine (lit_any a6 a8 a7 a9 p10 len10 q10 _ y0 y1).mono ?_
  rintro e v4 ⟨q, rfl, hq, _, hb4⟩
  have c0 : v4.cell? ⟨v3.heap.size, 0, none⟩ = some (.iface T (.pointer (some ⟨p, 0, none⟩))) := by rw [hb4.cell (by simp)]; simp [go_sem]
  have c1 : v4.cell? ⟨v3.heap.size, 1, none⟩ = some (.int .i32 0) := by rw [hb4.cell (by simp)]; simp [go_sem]
  have H34 : Below v3.heap.size v3 v4 := ((by repeat (first | with_reducible exact Below.refl _ _ | (with_reducible refine Below.drew ?_) | (with_reducible refine Below.alloc ?_ (by simp; try omega) _) | (with_reducible refine Below.setCell ?_ (by simp; try omega) _))) : Below v3.heap.size v3 _).trans (hb4.mono (by simp))
  have CB := Lib.hid hq
  have CA4 := Lib.hid (CA.out.below H34)
  have T5 := Lib.hid (R5.out.below H34)
  have T10 := Lib.hid (R10.out.below H34)
  have V4 := Lib.hid (bel2 V3.out H34)
  clear hq CA R5 R10 H34 hb4 V3
  obtain ⟨T', hT'⟩ : ∃ T, T = cty (a6 % 6).toNat := ⟨_, rfl⟩
  rw [← hT']
  have HT' := Lib.hid hT'
  clear hT'
  go_wp2_with fail
  obtain ⟨W, hW⟩ : ∃ W, W = v4.alloc (.cells #[.iface T' (.pointer (some ⟨q, 0, none⟩)), .int .i32 0] 32) := ⟨_, rfl⟩
  have HB : Below v4.heap.size v4 W := by rw [hW]; exact (Below.refl _ _).alloc (Nat.le_refl _) _
  have n0 : W.cell? ⟨v3.heap.size, 0, none⟩ = some (.iface T (.pointer (some ⟨p, 0, none⟩))) := kept HB c0
  have m0 : W.cell? ⟨v4.heap.size, 0, none⟩ = some (.iface T' (.pointer (some ⟨q, 0, none⟩))) := by rw [hW]; simp [go_sem]
  rw [← hW]
  clear hW c0 c1
  obtain ⟨B1, hB1⟩ : ∃ B, B = v3.heap.size := ⟨_, rfl⟩
  obtain ⟨B2, hB2⟩ : ∃ B, B = v4.heap.size := ⟨_, rfl⟩
  rw [← hB1] at n0 ⊢
  rw [← hB2] at m0 ⊢
  clear hB1 hB2
  have VW := Lib.hid (bel2 V4.out HB)
  have l1 : B1 < W.heap.size := World.block_lt_of_cell? _ _ n0
  have l2 : B2 < W.heap.size := World.block_lt_of_cell? _ _ m0
  obtain ⟨g, hg⟩ : ∃ g, g = (cr a0 (a1 % 6).toNat a3 a2 a4 len5 z5 (a6 % 6).toNat a8 a7 a9 len10 z10).1 := ⟨_, rfl⟩
  obtain ⟨g', hg'⟩ : ∃ g, g = (cr a0 (a1 % 6).toNat a3 a2 a4 len5 z5 (a6 % 6).toNat a8 a7 a9 len10 z10).2 := ⟨_, rfl⟩
  have HC := Lib.hid (show ∀ W', Below W.heap.size W W' → Calls Try.prog 19 #[.iface T (.pointer (some ⟨p, 0, none⟩)), .iface T' (.pointer (some ⟨q, 0, none⟩)), .int .u8 (kd a0)] W' (QP g g' W') from fun W' hW' => by
    rw [hg, hg', HT.out, HT'.out]
    exact ceq_leaf a0 _ a3 a2 a4 p5 len5 q5 z5 _ a8 a7 a9 p10 len10 q10 z10 p q W' (by omega) (by omega) ((CA4.out.below HB).below hW') ((CB.out.below HB).below hW') ((T5.out.below HB).below hW') ((T10.out.below HB).below hW') (by omega) (by omega) (by omega) (by omega))
  have HD := Lib.hid (show ∀ W', Below W.heap.size W W' → Calls Try.prog 19 #[.iface T' (.pointer (some ⟨q, 0, none⟩)), .iface T (.pointer (some ⟨p, 0, none⟩)), .int .u8 (kd a0)] W' (QP g g' W') from fun W' hW' => by
    rw [hg, hg', HT.out, HT'.out, cr_comm _ _ _ _ _ _ _ _ _ _ _ _ _ (by omega) (by omega)]
    exact ceq_leaf a0 _ a8 a7 a9 p10 len10 q10 z10 _ a3 a2 a4 p5 len5 q5 z5 q p W' (by omega) (by omega) ((CB.out.below HB).below hW') ((CA4.out.below HB).below hW') ((T10.out.below HB).below hW') ((T5.out.below HB).below hW') (by omega) (by omega) (by omega) (by omega))
  clear hg hg' CA4 CB T5 T10 HT HT' HB V4
  cases a0 with
  | true =>
    go_quiet (first | (go_at_call 20; exact Calls.quiet_of_same (kind_true _)) | (go_at_call 19; exact Calls.quiet_of (HC.out _ (below_drewN (Below.refl _ _) _))))
    have n0' : (W.drewN nq).cell? ⟨B1, 0, none⟩ = some (.iface T (.pointer (some ⟨p, 0, none⟩))) := n0
    have m0' : (W.drewN nq).cell? ⟨B2, 0, none⟩ = some (.iface T' (.pointer (some ⟨q, 0, none⟩))) := m0
    have hbw : Below W.heap.size W (W.drewN nq) := below_drewN (Below.refl _ _) _
    generalize W.drewN nq = W2 at n0' m0' hbw ⊢
    have HD2 := Lib.hid (fun W' (hW' : Below W2.heap.size W2 W') => HD.out W' (bel2 hbw hW'))
    have V2 := Lib.hid (bel2 VW.out hbw)
    have l1' : B1 < W2.heap.size := World.block_lt_of_cell? _ _ n0'
    have l2' : B2 < W2.heap.size := World.block_lt_of_cell? _ _ m0'
    clear n0 m0 hbw HC HD l1 l2 VW
    go_wp2_with fail
    go_quiet (first | (go_at_call 20; exact Calls.quiet_of_same (kind_true _)) | (go_at_call 19; exact Calls.quiet_of (HD2.out _ (below_drewN (Below.refl _ _) _))))
    cases g <;> cases g'
    all_goals
      go_wp2_with fail
      go_ret
      exact ⟨rfl, below_drewN V2.out _⟩
  | false =>
    go_quiet (first | (go_at_call 20; exact Calls.quiet_of_same (kind_false _)) | (go_at_call 19; exact Calls.quiet_of (HC.out _ (below_drewN (Below.refl _ _) _))))
    have n0' : (W.drewN nq).cell? ⟨B1, 0, none⟩ = some (.iface T (.pointer (some ⟨p, 0, none⟩))) := n0
    have m0' : (W.drewN nq).cell? ⟨B2, 0, none⟩ = some (.iface T' (.pointer (some ⟨q, 0, none⟩))) := m0
    have hbw : Below W.heap.size W (W.drewN nq) := below_drewN (Below.refl _ _) _
    generalize W.drewN nq = W2 at n0' m0' hbw ⊢
    have HD2 := Lib.hid (fun W' (hW' : Below W2.heap.size W2 W') => HD.out W' (bel2 hbw hW'))
    have V2 := Lib.hid (bel2 VW.out hbw)
    have l1' : B1 < W2.heap.size := World.block_lt_of_cell? _ _ n0'
    have l2' : B2 < W2.heap.size := World.block_lt_of_cell? _ _ m0'
    clear n0 m0 hbw HC HD l1 l2 VW
    go_wp2_with fail
    go_quiet (first | (go_at_call 20; exact Calls.quiet_of_same (kind_false _)) | (go_at_call 19; exact Calls.quiet_of (HD2.out _ (below_drewN (Below.refl _ _) _))))
    cases g <;> cases g'
    all_goals
      go_wp2_with fail
      go_ret
      exact ⟨rfl, below_drewN V2.out _⟩
end Go.Proofs.Ytgghakmfcodojaa.fnCheckEqualityLiteralsSymmetric
