/- Proved here: the walk of the law FnDuplicateCaseEqualsDot, for every input. -/
import Derived.Test.YtgghakmfcodojaaDCE
import Derived.WalkKit
import Derived.WalkSpells
import Derived.WalkLawsBesides
import Derived.Lib.Hide
import Derived.Lib.SliceRun
import Derived.Deep.RegionWith
namespace Go.Proofs.Ytgghakmfcodojaa.fnDuplicateCaseEqualsDot
open Go.RowKit
set_option linter.unusedSimpArgs false
set_option linter.unusedVariables false

theorem rowBelow {k : IntKind} {w w1 : World} {a : Option Addr} {len cap : Nat} {zs : List Int} (h : IsRow k w a len cap zs) (hb : Below w.heap.size w w1) : IsRow k w1 a len cap zs := by
  rcases h with h | ⟨x, e1, e2, e3, e4, hc, hw⟩
  · exact .inl h
  · refine .inr ⟨x, e1, e2, e3, e4, fun i hi => ?_, hw⟩
    have := hc i hi
    obtain ⟨b, off, rfl⟩ := spot_none (hc 0 (by omega))
    rw [add_none] at this ⊢
    exact kept hb this

set_option maxRecDepth 100000 in
set_option maxHeartbeats 1000000 in
theorem long (a0 : Int) (a1 : Int) (a2 : Nat) (a3 : Nat) (a4 : Bool) (a5 : Bool) (a6 : Option Addr) (len6 cap6 : Nat) (z6 : List Int) (a7 : Option Addr) (len7 cap7 : Nat) (z7 : List Int) (a8 : Int) (a9 : Int) (a10 : ByteArray) (a11 : ByteArray) (w : World) (w0 : (Lit.int .u8 a0).wf = true) (w1 : (Lit.int .u8 a1).wf = true) (w2 : (Lit.float .f64 a2).wf = true) (w3 : (Lit.float .f64 a3).wf = true) (w6 : IsRow .u16 w a6 len6 cap6 z6) (w7 : IsRow .u16 w a7 len7 cap7 z7) (w8 : (Lit.int .u32 a8).wf = true) (w9 : (Lit.int .u32 a9).wf = true) (w10 : a10.size ≤ maxLen) (w11 : a11.size ≤ maxLen) (h : 1048576 < 2 * len6 + 2 * len7 + a10.size + a11.size) :
    Calls Try.prog 3 #[.int .u8 a0, .int .u8 a1, .float .f64 a2, .float .f64 a3, .bool a4, .bool a5, .slice a6 len6 cap6, .slice a7 len7 cap7, .int .u32 a8, .int .u32 a9, .string a10, .string a11] w fun e w' => e = .returned (.bool true) ∧ Below w.heap.size w w' := by
  obtain ⟨l6, _⟩ := len_ints w6
  obtain ⟨l7, _⟩ := len_ints w7
  unfold maxLen at *
  have m6 : len6 ≤ 9223372036854775807 := by omega
  have m7 : len7 ≤ 9223372036854775807 := by omega
  clear w6 w7 w0 w1 w2 w3 w8 w9
  by_cases c1 : len6 ≤ 524288
  · by_cases c2 : len7 ≤ 524288
    · by_cases c3 : a10.size ≤ 1048576
      · by_cases c4 : a11.size ≤ 1048576
        · go_enter Try.func3, Try.ntmps3
          go_wp2_with fail
          refine (some7 _ _ _ _ _ _ _ _ _ _ _ _ _ _ _ _ _ (by omega) (by omega) (by omega) (by omega)).mono ?_
          rintro e w' ⟨b, rfl, rfl⟩
          cases b
          · go_wp2_with fail
            go_ret
            exact ⟨rfl, Below.refl _ _⟩
          · go_wp2_with fail
            go_ret
            exact ⟨rfl, Below.refl _ _⟩
        · go_enter Try.func3, Try.ntmps3
          go_wp2_with fail
          refine (some7 _ _ _ _ _ _ _ _ _ _ _ _ _ _ _ _ _ (by omega) (by omega) (by omega) (by omega)).mono ?_
          rintro e w' ⟨b, rfl, rfl⟩
          cases b
          · go_wp2_with fail
            go_ret
            exact ⟨rfl, Below.refl _ _⟩
          · go_wp2_with fail
            go_ret
            exact ⟨rfl, Below.refl _ _⟩
      · go_enter Try.func3, Try.ntmps3
        go_wp2_with fail
        refine (some7 _ _ _ _ _ _ _ _ _ _ _ _ _ _ _ _ _ (by omega) (by omega) (by omega) (by omega)).mono ?_
        rintro e w' ⟨b, rfl, rfl⟩
        cases b
        · go_wp2_with fail
          go_ret
          exact ⟨rfl, Below.refl _ _⟩
        · go_wp2_with fail
          go_ret
          exact ⟨rfl, Below.refl _ _⟩
    · go_enter Try.func3, Try.ntmps3
      go_wp2_with fail
      refine (some7 _ _ _ _ _ _ _ _ _ _ _ _ _ _ _ _ _ (by omega) (by omega) (by omega) (by omega)).mono ?_
      rintro e w' ⟨b, rfl, rfl⟩
      cases b
      · go_wp2_with fail
        go_ret
        exact ⟨rfl, Below.refl _ _⟩
      · go_wp2_with fail
        go_ret
        exact ⟨rfl, Below.refl _ _⟩
  · go_enter Try.func3, Try.ntmps3
    go_wp2_with fail
    refine (some7 _ _ _ _ _ _ _ _ _ _ _ _ _ _ _ _ _ (by omega) (by omega) (by omega) (by omega)).mono ?_
    rintro e w' ⟨b, rfl, rfl⟩
    cases b
    · go_wp2_with fail
      go_ret
      exact ⟨rfl, Below.refl _ _⟩
    · go_wp2_with fail
      go_ret
      exact ⟨rfl, Below.refl _ _⟩

set_option maxRecDepth 100000 in
set_option maxHeartbeats 4000000 in
theorem walk (a0 : Int) (a1 : Int) (a2 : Nat) (a3 : Nat) (a4 : Bool) (a5 : Bool) (a6 : Option Addr) (len6 cap6 : Nat) (z6 : List Int) (a7 : Option Addr) (len7 cap7 : Nat) (z7 : List Int) (a8 : Int) (a9 : Int) (a10 : ByteArray) (a11 : ByteArray) (w : World) (w0 : (Lit.int .u8 a0).wf = true) (w1 : (Lit.int .u8 a1).wf = true) (w2 : (Lit.float .f64 a2).wf = true) (w3 : (Lit.float .f64 a3).wf = true) (w6 : IsRow .u16 w a6 len6 cap6 z6) (w7 : IsRow .u16 w a7 len7 cap7 z7) (w8 : (Lit.int .u32 a8).wf = true) (w9 : (Lit.int .u32 a9).wf = true) (w10 : a10.size ≤ maxLen) (w11 : a11.size ≤ maxLen) :
    Calls Try.prog 3 #[.int .u8 a0, .int .u8 a1, .float .f64 a2, .float .f64 a3, .bool a4, .bool a5, .slice a6 len6 cap6, .slice a7 len7 cap7, .int .u32 a8, .int .u32 a9, .string a10, .string a11] w fun e w' => e = .returned (.bool true) ∧ Below w.heap.size w w' := by
  by_cases h : 2 * len6 + 2 * len7 + a10.size + a11.size ≤ 1048576
  case neg => exact long a0 a1 a2 a3 a4 a5 a6 len6 cap6 z6 a7 len7 cap7 z7 a8 a9 a10 a11 w w0 w1 w2 w3 w6 w7 w8 w9 w10 w11 (by omega)
  obtain ⟨x0, x1⟩ := wf_u8 w0
  obtain ⟨y0, y1⟩ := wf_u8 w1
  have W6 := Lib.hid w6
  have W7 := Lib.hid w7
  clear w0 w1 w2 w3 w6 w7 w8 w9 w10 w11
  obtain ⟨sm, hsm⟩ : ∃ s, s = (a10.toList == a11.toList) := ⟨_, rfl⟩
  have HS := Lib.hid hsm.symm
  clear hsm
  go_enter Try.func3, Try.ntmps3
  go_wp2_with fail
  refine (yes7 _ _ _ _ _ _ _ _ _ _ _ _ _ _ _ _ _ (by omega)).mono ?_
  rintro e w' ⟨rfl, rfl⟩
  go_wp2_with fail
  refine (cpA_any a6 len6 cap6 z6 _ W6.out (by omega)).mono ?_
  rintro e v1 ⟨p6, q6, rfl, s6, hb1⟩
  have S6 := Lib.hid s6
  have W7' := Lib.hid (rowBelow W7.out hb1)
  have V1 := Lib.hid hb1
  clear s6 W6 W7 hb1
  go_wp2_with fail
  refine (cpA_any a7 len7 cap7 z7 _ W7'.out (by omega)).mono ?_
  rintro e v2 ⟨p7, q7, rfl, s7, hb2⟩
  have S7 := Lib.hid (show RowV v2 p7 len7 (fun i => .int .u16 (uAt z7 i)) from s7)
  have S6' := Lib.hid (show RowV v2 p6 len6 (fun i => .int .u16 (uAt z6 i)) from S6.out.below hb2)
  have V2 := Lib.hid (bel2 V1.out hb2)
  clear s7 S6 W7' hb2 V1
  go_wp2_with fail
  cases sm with
  | true =>
    refine (leaf_any a0 a2 a4 p6 len6 q6 a8 _ x0 x1).mono ?_
    rintro e v3 ⟨p, rfl, hp, _, hb3⟩
    have LA := Lib.hid hp
    have R6 := Lib.hid (S6'.out.below hb3)
    have R7 := Lib.hid (S7.out.below hb3)
    have V3 := Lib.hid (bel2 V2.out hb3)
    clear hp S6' S7 hb3 V2
    go_wp2_with fail
    refine (mkdot _ _ _ _ _).mono ?_
    rintro e v4 ⟨d, rfl, hd, hb4⟩
    have LA4 := Lib.hid (LA.out.below hb4)
    have DA := Lib.hid hd
    have T6 := Lib.hid (R6.out.below hb4)
    have T7 := Lib.hid (R7.out.below hb4)
    have V4 := Lib.hid (bel2 V3.out hb4)
    clear hd LA R6 R7 hb4 V3
    go_wp2_with fail
    refine (leaf_any a1 a3 a5 p7 len7 q7 a9 _ y0 y1).mono ?_
    rintro e v5 ⟨q, rfl, hq, _, hb5⟩
    have c0 : v5.cell? ⟨v4.heap.size, 0, none⟩ = some (.iface 50 (.pointer (some ⟨d, 0, none⟩))) := by rw [hb5.cell (by simp)]; simp [go_sem]
    have c1 : v5.cell? ⟨v4.heap.size, 1, none⟩ = some (.int .i32 0) := by rw [hb5.cell (by simp)]; simp [go_sem]
    have H45 : Below v4.heap.size v4 v5 := ((by repeat (first | with_reducible exact Below.refl _ _ | (with_reducible refine Below.drew ?_) | (with_reducible refine Below.alloc ?_ (by simp; try omega) _) | (with_reducible refine Below.setCell ?_ (by simp; try omega) _))) : Below v4.heap.size v4 _).trans (hb5.mono (by simp))
    have LB := Lib.hid hq
    have LA5 := Lib.hid (LA4.out.below H45)
    have DA5 := Lib.hid (DA.out.below H45)
    have R6 := Lib.hid (T6.out.below H45)
    have R7 := Lib.hid (T7.out.below H45)
    have V5 := Lib.hid (bel2 V4.out H45)
    clear hq LA4 DA T6 T7 H45 hb5 V4
    go_wp2_with fail
    refine (mkdot _ _ _ _ _).mono ?_
    rintro e v6 ⟨d', rfl, hd, hb6⟩
    have g0 := kept hb6 c0
    have g1 := kept hb6 c1
    have DB := Lib.hid hd
    have LB6 := Lib.hid (LB.out.below hb6)
    have LA6 := Lib.hid (LA5.out.below hb6)
    have DA6 := Lib.hid (DA5.out.below hb6)
    have T6 := Lib.hid (R6.out.below hb6)
    have T7 := Lib.hid (R7.out.below hb6)
    have V6 := Lib.hid (bel2 V5.out hb6)
    have g2 : v4.heap.size < v6.heap.size := World.block_lt_of_cell? _ _ g0
    clear hd LB LA5 DA5 R6 R7 hb6 V5 c0 c1
    go_wp2_with fail
    refine (zdce _ _ _ _ _ _ _ _ _ (fun W hW => dotT d d' _ p _ q 0 0 0 0 a10 a11 _ _ W (DA6.out.below (bel2 (Below.alloc (Below.refl _ _) (Nat.le_refl _) _) hW)).1 (DA6.out.below (bel2 (Below.alloc (Below.refl _ _) (Nat.le_refl _) _) hW)).2.1 (DA6.out.below (bel2 (Below.alloc (Below.refl _ _) (Nat.le_refl _) _) hW)).2.2.1 (DA6.out.below (bel2 (Below.alloc (Below.refl _ _) (Nat.le_refl _) _) hW)).2.2.2 (DB.out.below (bel2 (Below.alloc (Below.refl _ _) (Nat.le_refl _) _) hW)).1 (DB.out.below (bel2 (Below.alloc (Below.refl _ _) (Nat.le_refl _) _) hW)).2.1 (DB.out.below (bel2 (Below.alloc (Below.refl _ _) (Nat.le_refl _) _) hW)).2.2.1 (DB.out.below (bel2 (Below.alloc (Below.refl _ _) (Nat.le_refl _) _) hW)).2.2.2 HS.out (fun W' hW' => dce_leaf _ a2 a4 p6 len6 q6 z6 a8 _ a3 a5 p7 len7 q7 z7 a9 p q 0 0 W' (by omega) (by omega) ((LA6.out.below (bel2 (Below.alloc (Below.refl _ _) (Nat.le_refl _) _) hW)).below hW') ((LB6.out.below (bel2 (Below.alloc (Below.refl _ _) (Nat.le_refl _) _) hW)).below hW') ((T6.out.below (bel2 (Below.alloc (Below.refl _ _) (Nat.le_refl _) _) hW)).below hW') ((T7.out.below (bel2 (Below.alloc (Below.refl _ _) (Nat.le_refl _) _) hW)).below hW') (by omega) (by omega)))).mono ?_
    rintro e v7 ⟨rfl, hb7⟩
    have H67 : Below v6.heap.size v6 v7 := ((by repeat (first | with_reducible exact Below.refl _ _ | (with_reducible refine Below.drew ?_) | (with_reducible refine Below.alloc ?_ (by simp; try omega) _) | (with_reducible refine Below.setCell ?_ (by simp; try omega) _))) : Below v6.heap.size v6 _).trans (hb7.mono (by simp))
    have R6 := Lib.hid (T6.out.below H67)
    have R7 := Lib.hid (T7.out.below H67)
    have V7 := Lib.hid (bel2 V6.out H67)
    clear hb7 H67 T6 T7 V6 DA6 DB LA6 LB6 g0 g1 g2
    have HL := Lib.hid (le_any a0 a1 a2 a3 a4 a5 p6 p7 len6 q6 len7 q7 a8 a9 z6 z7 v7 x0 x1 y0 y1 R6.out R7.out (by omega) (by omega))
    obtain ⟨g, hg⟩ : ∃ g, g = leq (a0 % 7).toNat a2 a4 len6 z6 a8 (a1 % 7).toNat a3 a5 len7 z7 a9 := ⟨_, rfl⟩
    rw [← hg] at HL ⊢
    clear hg R6 R7
    have hs := HS.out
    go_wp2_with fail
    refine HL.out.mono ?_
    rintro e v8 ⟨rfl, m, rfl⟩
    cases g
    all_goals
      go_wp2_with fail
      go_ret
      exact ⟨rfl, below_drewN V7.out _⟩
  | false =>
    refine (leaf_any a0 a2 a4 p6 len6 q6 a8 _ x0 x1).mono ?_
    rintro e v3 ⟨p, rfl, hp, _, hb3⟩
    have LA := Lib.hid hp
    have R6 := Lib.hid (S6'.out.below hb3)
    have R7 := Lib.hid (S7.out.below hb3)
    have V3 := Lib.hid (bel2 V2.out hb3)
    clear hp S6' S7 hb3 V2
    go_wp2_with fail
    refine (mkdot _ _ _ _ _).mono ?_
    rintro e v4 ⟨d, rfl, hd, hb4⟩
    have LA4 := Lib.hid (LA.out.below hb4)
    have DA := Lib.hid hd
    have T6 := Lib.hid (R6.out.below hb4)
    have T7 := Lib.hid (R7.out.below hb4)
    have V4 := Lib.hid (bel2 V3.out hb4)
    clear hd LA R6 R7 hb4 V3
    go_wp2_with fail
    refine (leaf_any a1 a3 a5 p7 len7 q7 a9 _ y0 y1).mono ?_
    rintro e v5 ⟨q, rfl, hq, _, hb5⟩
    have c0 : v5.cell? ⟨v4.heap.size, 0, none⟩ = some (.iface 50 (.pointer (some ⟨d, 0, none⟩))) := by rw [hb5.cell (by simp)]; simp [go_sem]
    have c1 : v5.cell? ⟨v4.heap.size, 1, none⟩ = some (.int .i32 0) := by rw [hb5.cell (by simp)]; simp [go_sem]
    have H45 : Below v4.heap.size v4 v5 := ((by repeat (first | with_reducible exact Below.refl _ _ | (with_reducible refine Below.drew ?_) | (with_reducible refine Below.alloc ?_ (by simp; try omega) _) | (with_reducible refine Below.setCell ?_ (by simp; try omega) _))) : Below v4.heap.size v4 _).trans (hb5.mono (by simp))
    have LB := Lib.hid hq
    have LA5 := Lib.hid (LA4.out.below H45)
    have DA5 := Lib.hid (DA.out.below H45)
    have R6 := Lib.hid (T6.out.below H45)
    have R7 := Lib.hid (T7.out.below H45)
    have V5 := Lib.hid (bel2 V4.out H45)
    clear hq LA4 DA T6 T7 H45 hb5 V4
    go_wp2_with fail
    refine (mkdot _ _ _ _ _).mono ?_
    rintro e v6 ⟨d', rfl, hd, hb6⟩
    have g0 := kept hb6 c0
    have g1 := kept hb6 c1
    have DB := Lib.hid hd
    have LB6 := Lib.hid (LB.out.below hb6)
    have LA6 := Lib.hid (LA5.out.below hb6)
    have DA6 := Lib.hid (DA5.out.below hb6)
    have T6 := Lib.hid (R6.out.below hb6)
    have T7 := Lib.hid (R7.out.below hb6)
    have V6 := Lib.hid (bel2 V5.out hb6)
    have g2 : v4.heap.size < v6.heap.size := World.block_lt_of_cell? _ _ g0
    clear hd LB LA5 DA5 R6 R7 hb6 V5 c0 c1
    go_wp2_with fail
    refine (zdce _ _ _ _ _ _ _ _ _ (fun W hW => dotF d d' _ p _ q 0 0 0 0 a10 a11 W (DA6.out.below (bel2 (Below.alloc (Below.refl _ _) (Nat.le_refl _) _) hW)).1 (DA6.out.below (bel2 (Below.alloc (Below.refl _ _) (Nat.le_refl _) _) hW)).2.1 (DA6.out.below (bel2 (Below.alloc (Below.refl _ _) (Nat.le_refl _) _) hW)).2.2.1 (DA6.out.below (bel2 (Below.alloc (Below.refl _ _) (Nat.le_refl _) _) hW)).2.2.2 (DB.out.below (bel2 (Below.alloc (Below.refl _ _) (Nat.le_refl _) _) hW)).1 (DB.out.below (bel2 (Below.alloc (Below.refl _ _) (Nat.le_refl _) _) hW)).2.1 (DB.out.below (bel2 (Below.alloc (Below.refl _ _) (Nat.le_refl _) _) hW)).2.2.1 (DB.out.below (bel2 (Below.alloc (Below.refl _ _) (Nat.le_refl _) _) hW)).2.2.2 HS.out)).mono ?_
    rintro e v7 ⟨rfl, hb7⟩
    have H67 : Below v6.heap.size v6 v7 := ((by repeat (first | with_reducible exact Below.refl _ _ | (with_reducible refine Below.drew ?_) | (with_reducible refine Below.alloc ?_ (by simp; try omega) _) | (with_reducible refine Below.setCell ?_ (by simp; try omega) _))) : Below v6.heap.size v6 _).trans (hb7.mono (by simp))
    have R6 := Lib.hid (T6.out.below H67)
    have R7 := Lib.hid (T7.out.below H67)
    have V7 := Lib.hid (bel2 V6.out H67)
    clear hb7 H67 T6 T7 V6 DA6 DB LA6 LB6 g0 g1 g2
    clear R6 R7
    have hs := HS.out
    go_wp2_with fail
    go_ret
    exact ⟨rfl, V7.out⟩
end Go.Proofs.Ytgghakmfcodojaa.fnDuplicateCaseEqualsDot
