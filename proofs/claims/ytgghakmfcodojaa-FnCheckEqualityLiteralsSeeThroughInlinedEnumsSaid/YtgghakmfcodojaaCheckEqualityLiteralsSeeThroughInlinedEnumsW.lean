/- Proved here: the walk of the law FnCheckEqualityLiteralsSeeThroughInlinedEnums, for every input. -/
import Derived.Test.YtgghakmfcodojaaCQB
import Derived.WalkKit
import Derived.WalkSpells
import Derived.WalkLawsBesides
import Derived.Lib.Hide
import Derived.Lib.SliceRun
import Derived.Deep.RegionWith
import Derived.Deep.QuietTactic
import Derived.BigQuiet
namespace Go.Proofs.Ytgghakmfcodojaa.fnCheckEqualityLiteralsSeeThroughInlinedEnums
open Go.RowKit Go.Proofs.Ytgghakmfcodojaa.Cq
set_option linter.unusedSimpArgs false
set_option linter.unusedVariables false

theorem rowBelow {k : IntKind} {w w1 : World} {a : Option Addr} {len cap : Nat} {zs : List Int} (h : IsRow k w a len cap zs) (hb : Below w.heap.size w w1) : IsRow k w1 a len cap zs := by
  rcases h with h | ⟨x, e1, e2, e3, e4, hc, hw⟩
  · exact .inl h
  · refine .inr ⟨x, e1, e2, e3, e4, fun i hi => ?_, hw⟩
    have := hc i hi
    obtain ⟨b, off, rfl⟩ := spot_none (hc 0 (by omega))
    rw [add_none] at this ⊢
    exact kept hb this

theorem wrapI (T P : Nat) (D : Int) (w : World) (h0 : 0 ≤ D) (h1 : D ≤ 255) : Calls Try.prog 22 #[.agg #[.iface T (.pointer (some ⟨P, 0, none⟩)), .int .i32 0], .int .u8 D] w (fun e w' => ∃ d, WrapP T P d w e w') := by
  obtain ⟨d, rfl⟩ : ∃ d : Nat, D = d := ⟨D.toNat, by omega⟩
  exact (wrap_any T P d w (by omega)).mono fun _ _ h => ⟨d, h⟩
theorem WD.lo {w : World} {B T P : Nat} (B' : Nat) (hB : B' ≤ B) : ∀ {d t p : Nat}, WD w B T P d t p → WD w B' T P d t p
  | 0, _, _, h => h
  | d + 1, _, _, ⟨h1, h0, t', p', h2, h3⟩ => ⟨h1, by omega, t', p', h2, WD.lo B' hB h3⟩

set_option maxRecDepth 100000 in
set_option maxHeartbeats 1000000 in
theorem long (a0 : Bool) (a1 : Int) (a2 : Bool) (a3 : Nat) (a4 : ByteArray) (a5 : Option Addr) (len5 cap5 : Nat) (z5 : List Int) (a6 : Int) (a7 : Bool) (a8 : Nat) (a9 : ByteArray) (a10 : Option Addr) (len10 cap10 : Nat) (z10 : List Int) (a11 : Int) (w : World) (w1 : (Lit.int .u8 a1).wf = true) (w3 : (Lit.float .f64 a3).wf = true) (w4 : a4.size ≤ maxLen) (w5 : IsRow .u16 w a5 len5 cap5 z5) (w6 : (Lit.int .u8 a6).wf = true) (w8 : (Lit.float .f64 a8).wf = true) (w9 : a9.size ≤ maxLen) (w10 : IsRow .u16 w a10 len10 cap10 z10) (w11 : (Lit.int .u8 a11).wf = true) (h : 1048576 < 2 * len5 + 2 * len10 + a4.size + a9.size) :
    Calls Try.prog 6 #[.bool a0, .int .u8 a1, .bool a2, .float .f64 a3, .string a4, .slice a5 len5 cap5, .int .u8 a6, .bool a7, .float .f64 a8, .string a9, .slice a10 len10 cap10, .int .u8 a11] w fun e w' => e = .returned (.bool true) ∧ Below w.heap.size w w' := by
  obtain ⟨l5, _⟩ := len_ints w5
  obtain ⟨l10, _⟩ := len_ints w10
  unfold maxLen at *
  have m6 : len5 ≤ 9223372036854775807 := by omega
  have m7 : len10 ≤ 9223372036854775807 := by omega
  clear w1 w3 w5 w6 w8 w10
  by_cases c1 : a4.size ≤ 1048576
  · by_cases c2 : a9.size ≤ 1048576
    · by_cases c3 : len5 ≤ 524288
      · by_cases c4 : len10 ≤ 524288
        · go_enter Try.func6, Try.ntmps6
          go_wp2_with fail
          refine (some21 _ _ _ _ _ _ _ _ _ _ _ _ _ _ _ _ _ (by omega) (by omega) (by omega) (by omega)).mono ?_
          rintro e w' ⟨b, rfl, rfl⟩
          cases b
          · go_wp2_with fail
            go_ret
            exact ⟨rfl, Below.refl _ _⟩
          · go_wp2_with fail
            go_ret
            exact ⟨rfl, Below.refl _ _⟩
        · go_enter Try.func6, Try.ntmps6
          go_wp2_with fail
          refine (some21 _ _ _ _ _ _ _ _ _ _ _ _ _ _ _ _ _ (by omega) (by omega) (by omega) (by omega)).mono ?_
          rintro e w' ⟨b, rfl, rfl⟩
          cases b
          · go_wp2_with fail
            go_ret
            exact ⟨rfl, Below.refl _ _⟩
          · go_wp2_with fail
            go_ret
            exact ⟨rfl, Below.refl _ _⟩
      · go_enter Try.func6, Try.ntmps6
        go_wp2_with fail
        refine (some21 _ _ _ _ _ _ _ _ _ _ _ _ _ _ _ _ _ (by omega) (by omega) (by omega) (by omega)).mono ?_
        rintro e w' ⟨b, rfl, rfl⟩
        cases b
        · go_wp2_with fail
          go_ret
          exact ⟨rfl, Below.refl _ _⟩
        · go_wp2_with fail
          go_ret
          exact ⟨rfl, Below.refl _ _⟩
    · go_enter Try.func6, Try.ntmps6
      go_wp2_with fail
      refine (some21 _ _ _ _ _ _ _ _ _ _ _ _ _ _ _ _ _ (by omega) (by omega) (by omega) (by omega)).mono ?_
      rintro e w' ⟨b, rfl, rfl⟩
      cases b
      · go_wp2_with fail
        go_ret
        exact ⟨rfl, Below.refl _ _⟩
      · go_wp2_with fail
        go_ret
        exact ⟨rfl, Below.refl _ _⟩
  · go_enter Try.func6, Try.ntmps6
    go_wp2_with fail
    refine (some21 _ _ _ _ _ _ _ _ _ _ _ _ _ _ _ _ _ (by omega) (by omega) (by omega) (by omega)).mono ?_
    rintro e w' ⟨b, rfl, rfl⟩
    cases b
    · go_wp2_with fail
      go_ret
      exact ⟨rfl, Below.refl _ _⟩
    · go_wp2_with fail
      go_ret
      exact ⟨rfl, Below.refl _ _⟩

set_option maxRecDepth 100000 in
set_option maxHeartbeats 8000000 in
theorem walk (a0 : Bool) (a1 : Int) (a2 : Bool) (a3 : Nat) (a4 : ByteArray) (a5 : Option Addr) (len5 cap5 : Nat) (z5 : List Int) (a6 : Int) (a7 : Bool) (a8 : Nat) (a9 : ByteArray) (a10 : Option Addr) (len10 cap10 : Nat) (z10 : List Int) (a11 : Int) (w : World) (w1 : (Lit.int .u8 a1).wf = true) (w3 : (Lit.float .f64 a3).wf = true) (w4 : a4.size ≤ maxLen) (w5 : IsRow .u16 w a5 len5 cap5 z5) (w6 : (Lit.int .u8 a6).wf = true) (w8 : (Lit.float .f64 a8).wf = true) (w9 : a9.size ≤ maxLen) (w10 : IsRow .u16 w a10 len10 cap10 z10) (w11 : (Lit.int .u8 a11).wf = true) :
    Calls Try.prog 6 #[.bool a0, .int .u8 a1, .bool a2, .float .f64 a3, .string a4, .slice a5 len5 cap5, .int .u8 a6, .bool a7, .float .f64 a8, .string a9, .slice a10 len10 cap10, .int .u8 a11] w fun e w' => e = .returned (.bool true) ∧ Below w.heap.size w w' := by
  by_cases h : 2 * len5 + 2 * len10 + a4.size + a9.size ≤ 1048576
  case neg => exact long a0 a1 a2 a3 a4 a5 len5 cap5 z5 a6 a7 a8 a9 a10 len10 cap10 z10 a11 w w1 w3 w4 w5 w6 w8 w9 w10 w11 (by omega)
  obtain ⟨x0, x1⟩ := wf_u8 w1
  obtain ⟨y0, y1⟩ := wf_u8 w6
  obtain ⟨u0, u1⟩ := wf_u8 w11
  clear w11
  have W5 := Lib.hid w5
  have W10 := Lib.hid w10
  clear w1 w3 w4 w5 w6 w8 w9 w10
  go_enter Try.func6, Try.ntmps6
  go_wp2_with fail
  refine (yes21 _ _ _ _ _ _ _ _ _ _ _ _ _ _ _ _ _ (by omega)).mono ?_
  rintro e w' ⟨rfl, rfl⟩
  go_wp2_with fail
  refine (cpB_any a5 len5 cap5 z5 _ W5.out (by omega)).mono ?_
  rintro e v1 ⟨p5, q5, rfl, s5, hb1⟩
  have S5 := Lib.hid s5
  have W10' := Lib.hid (rowBelow W10.out hb1)
  have V1 := Lib.hid hb1
  clear s5 W5 W10 hb1
  go_wp2_with fail
  refine (cpB_any a10 len10 cap10 z10 _ W10'.out (by omega)).mono ?_
  rintro e v2 ⟨p10, q10, rfl, s10, hb2⟩
  have S10 := Lib.hid (show RowV v2 p10 len10 (fun i => .int .u16 (uAt z10 i)) from s10)
  have S5' := Lib.hid (show RowV v2 p5 len5 (fun i => .int .u16 (uAt z5 i)) from S5.out.below hb2)
  have V2 := Lib.hid (bel2 V1.out hb2)
  clear s10 S5 W10' hb2 V1
  go_wp2_with fail
  refine (lit_any a1 a3 a2 a4 p5 len5 q5 _ x0 x1).mono ?_
  rintro e v3 ⟨p, rfl, hp, _, hb3⟩
  have CA := Lib.hid hp
  have R5 := Lib.hid (S5'.out.below hb3)
  have R10 := Lib.hid (S10.out.below hb3)
  have V3 := Lib.hid (bel2 V2.out hb3)
  clear hp S5' S10 hb3 V2
  obtain ⟨T, hT⟩ : ∃ T, T = cty (a1 % 6).toNat := ⟨_, rfl⟩
  rw [← hT]
  have HT := Lib.hid hT
  clear hT
  go_wp2_with fail
  refine (lit_any a6 a8 a7 a9 p10 len10 q10 _ y0 y1).mono ?_
  rintro e v4 ⟨q, rfl, hq, _, hb4⟩
  have c0 : v4.cell? ⟨v3.heap.size, 0, none⟩ = some (.iface T (.pointer (some ⟨p, 0, none⟩))) := by rw [hb4.cell (by simp)]; simp [go_sem]
  have c1 : v4.cell? ⟨v3.heap.size, 1, none⟩ = some (.int .i32 0) := by rw [hb4.cell (by simp)]; simp [go_sem]
  have H34 : Below v3.heap.size v3 v4 := ((by repeat (first | with_reducible exact Below.refl _ _ | (with_reducible refine Below.drew ?_) | (with_reducible refine Below.alloc ?_ (by simp; try omega) _) | (with_reducible refine Below.setCell ?_ (by simp; try omega) _))) : Below v3.heap.size v3 _).trans (hb4.mono (by simp))
  have CB := Lib.hid hq
  have CA4 := Lib.hid (CA.out.below H34)
  have T5 := Lib.hid (R5.out.below H34)
  have T10 := Lib.hid (R10.out.below H34)
  have V4 := Lib.hid (bel2 V3.out H34)
  clear hq CA R5 R10 H34 hb4 V3
  obtain ⟨T', hT'⟩ : ∃ T, T = cty (a6 % 6).toNat := ⟨_, rfl⟩
  rw [← hT']
  have HT' := Lib.hid hT'
  clear hT'
  have l0 : v3.heap.size < v4.heap.size := World.block_lt_of_cell? _ _ c0
  go_wp2_with fail
  refine (wrapI T p _ _ (bits_within _ .u8 _ _).1 (bits_within _ .u8 _ _).2).mono ?_
  rintro e v5 ⟨d, t1, p1, rfl, hw1, hb5⟩
  have H45 : Below v4.heap.size v4 v5 := ((by repeat (first | with_reducible exact Below.refl _ _ | (with_reducible refine Below.drew ?_) | (with_reducible refine Below.alloc ?_ (by simp; try omega) _) | (with_reducible refine Below.setCell ?_ (by simp; try omega) _))) : Below v4.heap.size v4 _).trans (hb5.mono (by simp))
  have g0 := kept H45 c0
  have k0 : v5.cell? ⟨v4.heap.size, 0, none⟩ = some (.iface T' (.pointer (some ⟨q, 0, none⟩))) := by rw [hb5.cell (by simp)]; simp [go_sem]
  have k1 : v5.cell? ⟨v4.heap.size, 1, none⟩ = some (.int .i32 0) := by rw [hb5.cell (by simp)]; simp [go_sem]
  have WL := Lib.hid (WD.lo 0 (by omega) hw1)
  have CA5 := Lib.hid (CA4.out.below H45)
  have CB5 := Lib.hid (CB.out.below H45)
  have U5 := Lib.hid (T5.out.below H45)
  have U10 := Lib.hid (T10.out.below H45)
  have V5 := Lib.hid (bel2 V4.out H45)
  have l1 : v3.heap.size < v5.heap.size := World.block_lt_of_cell? _ _ g0
  have l2 : v4.heap.size < v5.heap.size := World.block_lt_of_cell? _ _ k0
  clear hw1 CA4 CB T5 T10 V4 c0 c1 H45 hb5 l0
  go_wp2_with fail
  refine (wrapI T' q _ _ (bits_within _ .u8 _ _).1 (bits_within _ .u8 _ _).2).mono ?_
  rintro e v6 ⟨d', t2, p2, rfl, hw2, hb6⟩
  have H56 : Below v5.heap.size v5 v6 := ((by repeat (first | with_reducible exact Below.refl _ _ | (with_reducible refine Below.drew ?_) | (with_reducible refine Below.alloc ?_ (by simp; try omega) _) | (with_reducible refine Below.setCell ?_ (by simp; try omega) _))) : Below v5.heap.size v5 _).trans (hb6.mono (by simp))
  have g1 := kept H56 g0
  have g2 := kept H56 k0
  have g3 : v6.cell? ⟨v5.heap.size, 0, none⟩ = some (.iface t1 (.pointer (some ⟨p1, 0, none⟩))) := by rw [hb6.cell (by simp)]; simp [go_sem]
  have WR := Lib.hid (WD.lo 0 (by omega) hw2)
  have WL6 := Lib.hid (WL.out.below H56)
  have CA6 := Lib.hid (CA5.out.below H56)
  have CB6 := Lib.hid (CB5.out.below H56)
  have T5 := Lib.hid (U5.out.below H56)
  have T10 := Lib.hid (U10.out.below H56)
  have V6 := Lib.hid (bel2 V5.out H56)
  clear hw2 WL CA5 CB5 U5 U10 V5 g0 k0 k1 H56 hb6 l1 l2
  go_wp2_with fail
  obtain ⟨W, hW⟩ : ∃ W, W = v6.alloc (.cells #[.iface t2 (.pointer (some ⟨p2, 0, none⟩)), .int .i32 0] 32) := ⟨_, rfl⟩
  have HB : Below v6.heap.size v6 W := by rw [hW]; exact (Below.refl _ _).alloc (Nat.le_refl _) _
  have n1 := kept HB g1
  have n2 := kept HB g2
  have n3 := kept HB g3
  have n4 : W.cell? ⟨v6.heap.size, 0, none⟩ = some (.iface t2 (.pointer (some ⟨p2, 0, none⟩))) := by rw [hW]; simp [go_sem]
  rw [← hW]
  clear hW g1 g2 g3
  obtain ⟨B1, hB1⟩ : ∃ B, B = v3.heap.size := ⟨_, rfl⟩
  rw [← hB1] at n1 ⊢
  clear hB1
  have l1 : B1 < W.heap.size := World.block_lt_of_cell? _ _ n1
  obtain ⟨B2, hB2⟩ : ∃ B, B = v4.heap.size := ⟨_, rfl⟩
  rw [← hB2] at n2 ⊢
  clear hB2
  have l2 : B2 < W.heap.size := World.block_lt_of_cell? _ _ n2
  obtain ⟨B3, hB3⟩ : ∃ B, B = v5.heap.size := ⟨_, rfl⟩
  rw [← hB3] at n3 ⊢
  clear hB3
  have l3 : B3 < W.heap.size := World.block_lt_of_cell? _ _ n3
  obtain ⟨B4, hB4⟩ : ∃ B, B = v6.heap.size := ⟨_, rfl⟩
  rw [← hB4] at n4 ⊢
  clear hB4
  have l4 : B4 < W.heap.size := World.block_lt_of_cell? _ _ n4
  have VW := Lib.hid (bel2 V6.out HB)
  obtain ⟨g, hg⟩ : ∃ g, g = (cr a0 (a1 % 6).toNat a3 a2 a4 len5 z5 (a6 % 6).toNat a8 a7 a9 len10 z10).1 := ⟨_, rfl⟩
  obtain ⟨g', hg'⟩ : ∃ g, g = (cr a0 (a1 % 6).toNat a3 a2 a4 len5 z5 (a6 % 6).toNat a8 a7 a9 len10 z10).2 := ⟨_, rfl⟩
  have HC := Lib.hid (show ∀ W', Below W.heap.size W W' → Calls Try.prog 19 #[.iface T (.pointer (some ⟨p, 0, none⟩)), .iface T' (.pointer (some ⟨q, 0, none⟩)), .int .u8 (kd a0)] W' (QP g g' W') from fun W' hW' => by
    rw [hg, hg', HT.out, HT'.out]
    exact ceq_leaf a0 _ a3 a2 a4 p5 len5 q5 z5 _ a8 a7 a9 p10 len10 q10 z10 p q W' (by omega) (by omega) ((CA6.out.below HB).below hW') ((CB6.out.below HB).below hW') ((T5.out.below HB).below hW') ((T10.out.below HB).below hW') (by omega) (by omega) (by omega) (by omega))
  have HD := Lib.hid (show ∀ W', Below W.heap.size W W' → Calls Try.prog 19 #[.iface t1 (.pointer (some ⟨p1, 0, none⟩)), .iface t2 (.pointer (some ⟨p2, 0, none⟩)), .int .u8 (kd a0)] W' (QP g g' W') from fun W' hW' => wdR (wdL (by rw [HT'.out]; exact cty_ne _) (HC.out W' hW') ((WL6.out.below HB).below hW')) ((WR.out.below HB).below hW'))
  clear hg hg' CA6 CB6 T5 T10 HT HT' WL6 WR HB V6
  cases a0 with
  | true =>
    go_quiet (first | (go_at_call 20; exact Calls.quiet_of_same (kind_true _)) | (go_at_call 19; exact Calls.quiet_of (HC.out _ (below_drewN (Below.refl _ _) _))))
    have n3' : (W.drewN nq).cell? ⟨B3, 0, none⟩ = some (.iface t1 (.pointer (some ⟨p1, 0, none⟩))) := n3
    have n4' : (W.drewN nq).cell? ⟨B4, 0, none⟩ = some (.iface t2 (.pointer (some ⟨p2, 0, none⟩))) := n4
    have hbw : Below W.heap.size W (W.drewN nq) := below_drewN (Below.refl _ _) _
    generalize W.drewN nq = W2 at n3' n4' hbw ⊢
    have HD2 := Lib.hid (fun W' (hW' : Below W2.heap.size W2 W') => HD.out W' (bel2 hbw hW'))
    have V2 := Lib.hid (bel2 VW.out hbw)
    have l3' : B3 < W2.heap.size := World.block_lt_of_cell? _ _ n3'
    have l4' : B4 < W2.heap.size := World.block_lt_of_cell? _ _ n4'
    clear n1 n2 n3 n4 hbw HC HD l1 l2 l3 l4 VW
    go_wp2_with fail
    go_quiet (first | (go_at_call 20; exact Calls.quiet_of_same (kind_true _)) | (go_at_call 19; exact Calls.quiet_of (HD2.out _ (below_drewN (Below.refl _ _) _))))
    cases g <;> cases g'
    all_goals
      go_wp2_with fail
      go_ret
      exact ⟨rfl, below_drewN V2.out _⟩
  | false =>
    go_quiet (first | (go_at_call 20; exact Calls.quiet_of_same (kind_false _)) | (go_at_call 19; exact Calls.quiet_of (HC.out _ (below_drewN (Below.refl _ _) _))))
    have n3' : (W.drewN nq).cell? ⟨B3, 0, none⟩ = some (.iface t1 (.pointer (some ⟨p1, 0, none⟩))) := n3
    have n4' : (W.drewN nq).cell? ⟨B4, 0, none⟩ = some (.iface t2 (.pointer (some ⟨p2, 0, none⟩))) := n4
    have hbw : Below W.heap.size W (W.drewN nq) := below_drewN (Below.refl _ _) _
    generalize W.drewN nq = W2 at n3' n4' hbw ⊢
    have HD2 := Lib.hid (fun W' (hW' : Below W2.heap.size W2 W') => HD.out W' (bel2 hbw hW'))
    have V2 := Lib.hid (bel2 VW.out hbw)
    have l3' : B3 < W2.heap.size := World.block_lt_of_cell? _ _ n3'
    have l4' : B4 < W2.heap.size := World.block_lt_of_cell? _ _ n4'
    clear n1 n2 n3 n4 hbw HC HD l1 l2 l3 l4 VW
    go_wp2_with fail
    go_quiet (first | (go_at_call 20; exact Calls.quiet_of_same (kind_false _)) | (go_at_call 19; exact Calls.quiet_of (HD2.out _ (below_drewN (Below.refl _ _) _))))
    cases g <;> cases g'
    all_goals
      go_wp2_with fail
      go_ret
      exact ⟨rfl, below_drewN V2.out _⟩
end Go.Proofs.Ytgghakmfcodojaa.fnCheckEqualityLiteralsSeeThroughInlinedEnums
