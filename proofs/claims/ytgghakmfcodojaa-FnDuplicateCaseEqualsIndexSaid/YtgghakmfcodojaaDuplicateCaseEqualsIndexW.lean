/- Proved here: the walk of the law FnDuplicateCaseEqualsIndex, for every input. -/
import Derived.Test.YtgghakmfcodojaaDCF
import Derived.WalkKit
import Derived.WalkSpells
import Derived.WalkLawsBesides
import Derived.Lib.Hide
import Derived.Lib.SliceRun
import Derived.Deep.RegionWith
namespace Go.Proofs.Ytgghakmfcodojaa.fnDuplicateCaseEqualsIndex
open Go.RowKit
set_option linter.unusedSimpArgs false
set_option linter.unusedVariables false

theorem rowBelow {k : IntKind} {w w1 : World} {a : Option Addr} {len cap : Nat} {zs : List Int} (h : IsRow k w a len cap zs) (hb : Below w.heap.size w w1) : IsRow k w1 a len cap zs := by
  rcases h with h | ⟨x, e1, e2, e3, e4, hc, hw⟩
  · exact .inl h
  · refine .inr ⟨x, e1, e2, e3, e4, fun i hi => ?_, hw⟩
    have := hc i hi
    obtain ⟨b, off, rfl⟩ := spot_none (hc 0 (by omega))
    rw [add_none] at this ⊢
    exact kept hb this

set_option maxRecDepth 100000 in
set_option maxHeartbeats 1000000 in
theorem long (a0 : Int) (a1 : Int) (a2 : Nat) (a3 : Nat) (a4 : Bool) (a5 : Bool) (a6 : Option Addr) (len6 cap6 : Nat) (z6 : List Int) (a7 : Option Addr) (len7 cap7 : Nat) (z7 : List Int) (a8 : Int) (a9 : Int) (a10 : Bool) (a11 : Bool) (w : World) (w0 : (Lit.int .u8 a0).wf = true) (w1 : (Lit.int .u8 a1).wf = true) (w2 : (Lit.float .f64 a2).wf = true) (w3 : (Lit.float .f64 a3).wf = true) (w6 : IsRow .u16 w a6 len6 cap6 z6) (w7 : IsRow .u16 w a7 len7 cap7 z7) (w8 : (Lit.int .u32 a8).wf = true) (w9 : (Lit.int .u32 a9).wf = true) (h : 1048576 < 2 * len6 + 2 * len7) :
    Calls Try.prog 4 #[.int .u8 a0, .int .u8 a1, .float .f64 a2, .float .f64 a3, .bool a4, .bool a5, .slice a6 len6 cap6, .slice a7 len7 cap7, .int .u32 a8, .int .u32 a9, .bool a10, .bool a11] w fun e w' => e = .returned (.bool true) ∧ Below w.heap.size w w' := by
  obtain ⟨l6, _⟩ := len_ints w6
  obtain ⟨l7, _⟩ := len_ints w7
  unfold maxLen at *
  have m6 : len6 ≤ 9223372036854775807 := by omega
  have m7 : len7 ≤ 9223372036854775807 := by omega
  clear w6 w7 w0 w1 w2 w3 w8 w9
  by_cases c1 : len6 ≤ 524288
  · by_cases c2 : len7 ≤ 524288
    · go_enter Try.func4, Try.ntmps4
      go_wp2_with fail
      refine (some13 _ _ _ _ _ _ _ _ _ _ _ _ _ _ _ _ _ (by omega) (by omega)).mono ?_
      rintro e w' ⟨b, rfl, rfl⟩
      cases b
      · go_wp2_with fail
        go_ret
        exact ⟨rfl, Below.refl _ _⟩
      · go_wp2_with fail
        go_ret
        exact ⟨rfl, Below.refl _ _⟩
    · go_enter Try.func4, Try.ntmps4
      go_wp2_with fail
      refine (some13 _ _ _ _ _ _ _ _ _ _ _ _ _ _ _ _ _ (by omega) (by omega)).mono ?_
      rintro e w' ⟨b, rfl, rfl⟩
      cases b
      · go_wp2_with fail
        go_ret
        exact ⟨rfl, Below.refl _ _⟩
      · go_wp2_with fail
        go_ret
        exact ⟨rfl, Below.refl _ _⟩
  · go_enter Try.func4, Try.ntmps4
    go_wp2_with fail
    refine (some13 _ _ _ _ _ _ _ _ _ _ _ _ _ _ _ _ _ (by omega) (by omega)).mono ?_
    rintro e w' ⟨b, rfl, rfl⟩
    cases b
    · go_wp2_with fail
      go_ret
      exact ⟨rfl, Below.refl _ _⟩
    · go_wp2_with fail
      go_ret
      exact ⟨rfl, Below.refl _ _⟩

set_option maxRecDepth 100000 in
set_option maxHeartbeats 8000000 in
theorem walk (a0 : Int) (a1 : Int) (a2 : Nat) (a3 : Nat) (a4 : Bool) (a5 : Bool) (a6 : Option Addr) (len6 cap6 : Nat) (z6 : List Int) (a7 : Option Addr) (len7 cap7 : Nat) (z7 : List Int) (a8 : Int) (a9 : Int) (a10 : Bool) (a11 : Bool) (w : World) (w0 : (Lit.int .u8 a0).wf = true) (w1 : (Lit.int .u8 a1).wf = true) (w2 : (Lit.float .f64 a2).wf = true) (w3 : (Lit.float .f64 a3).wf = true) (w6 : IsRow .u16 w a6 len6 cap6 z6) (w7 : IsRow .u16 w a7 len7 cap7 z7) (w8 : (Lit.int .u32 a8).wf = true) (w9 : (Lit.int .u32 a9).wf = true) :
    Calls Try.prog 4 #[.int .u8 a0, .int .u8 a1, .float .f64 a2, .float .f64 a3, .bool a4, .bool a5, .slice a6 len6 cap6, .slice a7 len7 cap7, .int .u32 a8, .int .u32 a9, .bool a10, .bool a11] w fun e w' => e = .returned (.bool true) ∧ Below w.heap.size w w' := by
  by_cases h : 2 * len6 + 2 * len7 ≤ 1048576
  case neg => exact long a0 a1 a2 a3 a4 a5 a6 len6 cap6 z6 a7 len7 cap7 z7 a8 a9 a10 a11 w w0 w1 w2 w3 w6 w7 w8 w9 (by omega)
  obtain ⟨x0, x1⟩ := wf_u8 w0
  obtain ⟨y0, y1⟩ := wf_u8 w1
  have W6 := Lib.hid w6
  have W7 := Lib.hid w7
  clear w0 w1 w2 w3 w6 w7 w8 w9
  go_enter Try.func4, Try.ntmps4
  go_wp2_with fail
  refine (yes13 _ _ _ _ _ _ _ _ _ _ _ _ _ _ _ _ _ (by omega)).mono ?_
  rintro e w' ⟨rfl, rfl⟩
  go_wp2_with fail
  refine (cpA_any a6 len6 cap6 z6 _ W6.out (by omega)).mono ?_
  rintro e v1 ⟨p6, q6, rfl, s6, hb1⟩
  have S6 := Lib.hid s6
  have W7' := Lib.hid (rowBelow W7.out hb1)
  have V1 := Lib.hid hb1
  clear s6 W6 W7 hb1
  go_wp2_with fail
  refine (cpA_any a7 len7 cap7 z7 _ W7'.out (by omega)).mono ?_
  rintro e v2 ⟨p7, q7, rfl, s7, hb2⟩
  have S7 := Lib.hid (show RowV v2 p7 len7 (fun i => .int .u16 (uAt z7 i)) from s7)
  have S6' := Lib.hid (show RowV v2 p6 len6 (fun i => .int .u16 (uAt z6 i)) from S6.out.below hb2)
  have V2 := Lib.hid (bel2 V1.out hb2)
  clear s7 S6 W7' hb2 V1
  go_wp2_with fail
  refine (leaf_any a0 a2 a4 p6 len6 q6 a8 _ x0 x1).mono ?_
  rintro e v3 ⟨y10, rfl, hp, _, hb⟩
  have HH : Below v2.heap.size v2 v3 := ((by repeat (first | with_reducible exact Below.refl _ _ | (with_reducible refine Below.drew ?_) | (with_reducible refine Below.alloc ?_ (by simp; try omega) _) | (with_reducible refine Below.setCell ?_ (by simp; try omega) _))) : Below v2.heap.size v2 _).trans (hb.mono (by simp; try omega))
  have R6_1 := Lib.hid (S6'.out.below HH)
  have R7_1 := Lib.hid (S7.out.below HH)
  have L_1 := Lib.hid hp
  have V_1 := Lib.hid (bel2 V2.out HH)
  clear hb HH S6' S7 hp V2
  go_wp2_with fail
  refine (wrap_any _ _ a10 _ _ _ _ _ _ _ _ rfl L_1.out).mono ?_
  rintro e v4 ⟨t10, z10, rfl, hp, hb⟩
  have HH : Below v3.heap.size v3 v4 := ((by repeat (first | with_reducible exact Below.refl _ _ | (with_reducible refine Below.drew ?_) | (with_reducible refine Below.alloc ?_ (by simp; try omega) _) | (with_reducible refine Below.setCell ?_ (by simp; try omega) _))) : Below v3.heap.size v3 _).trans (hb.mono (by simp; try omega))
  have R6_2 := Lib.hid (R6_1.out.below HH)
  have R7_2 := Lib.hid (R7_1.out.below HH)
  have W1A_2 := Lib.hid hp
  have V_2 := Lib.hid (bel2 V_1.out HH)
  clear hb HH R6_1 R7_1 L_1 hp V_1
  go_wp2_with fail
  refine (leaf_any a1 a3 a5 p7 len7 q7 a9 _ y0 y1).mono ?_
  rintro e v5 ⟨y11, rfl, hp, _, hb⟩
  have HH : Below v4.heap.size v4 v5 := ((by repeat (first | with_reducible exact Below.refl _ _ | (with_reducible refine Below.drew ?_) | (with_reducible refine Below.alloc ?_ (by simp; try omega) _) | (with_reducible refine Below.setCell ?_ (by simp; try omega) _))) : Below v4.heap.size v4 _).trans (hb.mono (by simp; try omega))
  have R6_3 := Lib.hid (R6_2.out.below HH)
  have R7_3 := Lib.hid (R7_2.out.below HH)
  have W1A_3 := Lib.hid (W1A_2.out.below HH)
  have L_3 := Lib.hid hp
  have V_3 := Lib.hid (bel2 V_2.out HH)
  clear hb HH R6_2 R7_2 W1A_2 hp V_2
  go_wp2_with fail
  refine (wrap_any _ _ a11 _ _ _ _ _ _ _ _ rfl L_3.out).mono ?_
  rintro e v6 ⟨t11, z11, rfl, hp, hb⟩
  have HH : Below v5.heap.size v5 v6 := ((by repeat (first | with_reducible exact Below.refl _ _ | (with_reducible refine Below.drew ?_) | (with_reducible refine Below.alloc ?_ (by simp; try omega) _) | (with_reducible refine Below.setCell ?_ (by simp; try omega) _))) : Below v5.heap.size v5 _).trans (hb.mono (by simp; try omega))
  have R6_4 := Lib.hid (R6_3.out.below HH)
  have R7_4 := Lib.hid (R7_3.out.below HH)
  have W1A_4 := Lib.hid (W1A_3.out.below HH)
  have W1B_4 := Lib.hid hp
  have V_4 := Lib.hid (bel2 V_3.out HH)
  clear hb HH R6_3 R7_3 W1A_3 L_3 hp V_3
  go_wp2_with fail
  refine (mkidx _ _ _ _ _ _ _).mono ?_
  rintro e v7 ⟨d1, rfl, hp, hb⟩
  have HH : Below v6.heap.size v6 v7 := ((by repeat (first | with_reducible exact Below.refl _ _ | (with_reducible refine Below.drew ?_) | (with_reducible refine Below.alloc ?_ (by simp; try omega) _) | (with_reducible refine Below.setCell ?_ (by simp; try omega) _))) : Below v6.heap.size v6 _).trans (hb.mono (by simp; try omega))
  have R6_5 := Lib.hid (R6_4.out.below HH)
  have R7_5 := Lib.hid (R7_4.out.below HH)
  have W1A_5 := Lib.hid (W1A_4.out.below HH)
  have W1B_5 := Lib.hid (W1B_4.out.below HH)
  have I1_5 := Lib.hid hp
  have V_5 := Lib.hid (bel2 V_4.out HH)
  clear hb HH R6_4 R7_4 W1A_4 W1B_4 hp V_4
  go_wp2_with fail
  refine (leaf_any a1 a3 a5 p7 len7 q7 a9 _ y0 y1).mono ?_
  rintro e v8 ⟨y20, rfl, hp, _, hb⟩
  have HH : Below v7.heap.size v7 v8 := ((by repeat (first | with_reducible exact Below.refl _ _ | (with_reducible refine Below.drew ?_) | (with_reducible refine Below.alloc ?_ (by simp; try omega) _) | (with_reducible refine Below.setCell ?_ (by simp; try omega) _))) : Below v7.heap.size v7 _).trans (hb.mono (by simp; try omega))
  have c6_0 : v8.cell? ⟨v7.heap.size, 0, none⟩ = some (.iface 60 (.pointer (some ⟨d1, 0, none⟩))) := by rw [hb.cell (by simp)]; simp [go_sem]
  have c6_1 : v8.cell? ⟨v7.heap.size, 1, none⟩ = some (.int .i32 0) := by rw [hb.cell (by simp)]; simp [go_sem]
  have R6_6 := Lib.hid (R6_5.out.below HH)
  have R7_6 := Lib.hid (R7_5.out.below HH)
  have W1A_6 := Lib.hid (W1A_5.out.below HH)
  have W1B_6 := Lib.hid (W1B_5.out.below HH)
  have I1_6 := Lib.hid (I1_5.out.below HH)
  have L_6 := Lib.hid hp
  have V_6 := Lib.hid (bel2 V_5.out HH)
  clear hb HH R6_5 R7_5 W1A_5 W1B_5 I1_5 hp V_5
  go_wp2_with fail
  refine (wrap_any _ _ a11 _ _ _ _ _ _ _ _ rfl L_6.out).mono ?_
  rintro e v9 ⟨t20, z20, rfl, hp, hb⟩
  have HH : Below v8.heap.size v8 v9 := ((by repeat (first | with_reducible exact Below.refl _ _ | (with_reducible refine Below.drew ?_) | (with_reducible refine Below.alloc ?_ (by simp; try omega) _) | (with_reducible refine Below.setCell ?_ (by simp; try omega) _))) : Below v8.heap.size v8 _).trans (hb.mono (by simp; try omega))
  have c7_0 := kept HH c6_0
  have c7_1 := kept HH c6_1
  have R6_7 := Lib.hid (R6_6.out.below HH)
  have R7_7 := Lib.hid (R7_6.out.below HH)
  have W1A_7 := Lib.hid (W1A_6.out.below HH)
  have W1B_7 := Lib.hid (W1B_6.out.below HH)
  have I1_7 := Lib.hid (I1_6.out.below HH)
  have W2B_7 := Lib.hid hp
  have V_7 := Lib.hid (bel2 V_6.out HH)
  clear hb HH c6_0 c6_1 R6_6 R7_6 W1A_6 W1B_6 I1_6 L_6 hp V_6
  go_wp2_with fail
  refine (leaf_any a0 a2 a4 p6 len6 q6 a8 _ x0 x1).mono ?_
  rintro e v10 ⟨y21, rfl, hp, _, hb⟩
  have HH : Below v9.heap.size v9 v10 := ((by repeat (first | with_reducible exact Below.refl _ _ | (with_reducible refine Below.drew ?_) | (with_reducible refine Below.alloc ?_ (by simp; try omega) _) | (with_reducible refine Below.setCell ?_ (by simp; try omega) _))) : Below v9.heap.size v9 _).trans (hb.mono (by simp; try omega))
  have c8_0 := kept HH c7_0
  have c8_1 := kept HH c7_1
  have R6_8 := Lib.hid (R6_7.out.below HH)
  have R7_8 := Lib.hid (R7_7.out.below HH)
  have W1A_8 := Lib.hid (W1A_7.out.below HH)
  have W1B_8 := Lib.hid (W1B_7.out.below HH)
  have I1_8 := Lib.hid (I1_7.out.below HH)
  have W2B_8 := Lib.hid (W2B_7.out.below HH)
  have L_8 := Lib.hid hp
  have V_8 := Lib.hid (bel2 V_7.out HH)
  clear hb HH c7_0 c7_1 R6_7 R7_7 W1A_7 W1B_7 I1_7 W2B_7 hp V_7
  go_wp2_with fail
  refine (wrap_any _ _ a10 _ _ _ _ _ _ _ _ rfl L_8.out).mono ?_
  rintro e v11 ⟨t21, z21, rfl, hp, hb⟩
  have HH : Below v10.heap.size v10 v11 := ((by repeat (first | with_reducible exact Below.refl _ _ | (with_reducible refine Below.drew ?_) | (with_reducible refine Below.alloc ?_ (by simp; try omega) _) | (with_reducible refine Below.setCell ?_ (by simp; try omega) _))) : Below v10.heap.size v10 _).trans (hb.mono (by simp; try omega))
  have c9_0 := kept HH c8_0
  have c9_1 := kept HH c8_1
  have R6_9 := Lib.hid (R6_8.out.below HH)
  have R7_9 := Lib.hid (R7_8.out.below HH)
  have W1A_9 := Lib.hid (W1A_8.out.below HH)
  have W1B_9 := Lib.hid (W1B_8.out.below HH)
  have I1_9 := Lib.hid (I1_8.out.below HH)
  have W2B_9 := Lib.hid (W2B_8.out.below HH)
  have W2A_9 := Lib.hid hp
  have V_9 := Lib.hid (bel2 V_8.out HH)
  clear hb HH c8_0 c8_1 R6_8 R7_8 W1A_8 W1B_8 I1_8 W2B_8 L_8 hp V_8
  go_wp2_with fail
  refine (mkidx _ _ _ _ _ _ _).mono ?_
  rintro e v12 ⟨d2, rfl, hp, hb⟩
  have HH : Below v11.heap.size v11 v12 := ((by repeat (first | with_reducible exact Below.refl _ _ | (with_reducible refine Below.drew ?_) | (with_reducible refine Below.alloc ?_ (by simp; try omega) _) | (with_reducible refine Below.setCell ?_ (by simp; try omega) _))) : Below v11.heap.size v11 _).trans (hb.mono (by simp; try omega))
  have c10_0 := kept HH c9_0
  have c10_1 := kept HH c9_1
  have R6_10 := Lib.hid (R6_9.out.below HH)
  have R7_10 := Lib.hid (R7_9.out.below HH)
  have W1A_10 := Lib.hid (W1A_9.out.below HH)
  have W1B_10 := Lib.hid (W1B_9.out.below HH)
  have I1_10 := Lib.hid (I1_9.out.below HH)
  have W2B_10 := Lib.hid (W2B_9.out.below HH)
  have W2A_10 := Lib.hid (W2A_9.out.below HH)
  have I2_10 := Lib.hid hp
  have V_10 := Lib.hid (bel2 V_9.out HH)
  clear hb HH c9_0 c9_1 R6_9 R7_9 W1A_9 W1B_9 I1_9 W2B_9 W2A_9 hp V_9
  go_wp2_with fail
  refine (leaf_any a0 a2 a4 p6 len6 q6 a8 _ x0 x1).mono ?_
  rintro e v13 ⟨y30, rfl, hp, _, hb⟩
  have HH : Below v12.heap.size v12 v13 := ((by repeat (first | with_reducible exact Below.refl _ _ | (with_reducible refine Below.drew ?_) | (with_reducible refine Below.alloc ?_ (by simp; try omega) _) | (with_reducible refine Below.setCell ?_ (by simp; try omega) _))) : Below v12.heap.size v12 _).trans (hb.mono (by simp; try omega))
  have c11_0 := kept HH c10_0
  have c11_1 := kept HH c10_1
  have c11_2 : v13.cell? ⟨v12.heap.size, 0, none⟩ = some (.iface 60 (.pointer (some ⟨d2, 0, none⟩))) := by rw [hb.cell (by simp)]; simp [go_sem]
  have c11_3 : v13.cell? ⟨v12.heap.size, 1, none⟩ = some (.int .i32 0) := by rw [hb.cell (by simp)]; simp [go_sem]
  have R6_11 := Lib.hid (R6_10.out.below HH)
  have R7_11 := Lib.hid (R7_10.out.below HH)
  have W1A_11 := Lib.hid (W1A_10.out.below HH)
  have W1B_11 := Lib.hid (W1B_10.out.below HH)
  have I1_11 := Lib.hid (I1_10.out.below HH)
  have W2B_11 := Lib.hid (W2B_10.out.below HH)
  have W2A_11 := Lib.hid (W2A_10.out.below HH)
  have I2_11 := Lib.hid (I2_10.out.below HH)
  have L_11 := Lib.hid hp
  have V_11 := Lib.hid (bel2 V_10.out HH)
  clear hb HH c10_0 c10_1 R6_10 R7_10 W1A_10 W1B_10 I1_10 W2B_10 W2A_10 I2_10 hp V_10
  go_wp2_with fail
  refine (wrap_any _ _ a10 _ _ _ _ _ _ _ _ rfl L_11.out).mono ?_
  rintro e v14 ⟨t30, z30, rfl, hp, hb⟩
  have HH : Below v13.heap.size v13 v14 := ((by repeat (first | with_reducible exact Below.refl _ _ | (with_reducible refine Below.drew ?_) | (with_reducible refine Below.alloc ?_ (by simp; try omega) _) | (with_reducible refine Below.setCell ?_ (by simp; try omega) _))) : Below v13.heap.size v13 _).trans (hb.mono (by simp; try omega))
  have c12_0 := kept HH c11_0
  have c12_1 := kept HH c11_1
  have c12_2 := kept HH c11_2
  have c12_3 := kept HH c11_3
  have R6_12 := Lib.hid (R6_11.out.below HH)
  have R7_12 := Lib.hid (R7_11.out.below HH)
  have W1A_12 := Lib.hid (W1A_11.out.below HH)
  have W1B_12 := Lib.hid (W1B_11.out.below HH)
  have I1_12 := Lib.hid (I1_11.out.below HH)
  have W2B_12 := Lib.hid (W2B_11.out.below HH)
  have W2A_12 := Lib.hid (W2A_11.out.below HH)
  have I2_12 := Lib.hid (I2_11.out.below HH)
  have W3A_12 := Lib.hid hp
  have V_12 := Lib.hid (bel2 V_11.out HH)
  clear hb HH c11_0 c11_1 c11_2 c11_3 R6_11 R7_11 W1A_11 W1B_11 I1_11 W2B_11 W2A_11 I2_11 L_11 hp V_11
  go_wp2_with fail
  refine (leaf_any a1 a3 a5 p7 len7 q7 a9 _ y0 y1).mono ?_
  rintro e v15 ⟨y31, rfl, hp, _, hb⟩
  have HH : Below v14.heap.size v14 v15 := ((by repeat (first | with_reducible exact Below.refl _ _ | (with_reducible refine Below.drew ?_) | (with_reducible refine Below.alloc ?_ (by simp; try omega) _) | (with_reducible refine Below.setCell ?_ (by simp; try omega) _))) : Below v14.heap.size v14 _).trans (hb.mono (by simp; try omega))
  have c13_0 := kept HH c12_0
  have c13_1 := kept HH c12_1
  have c13_2 := kept HH c12_2
  have c13_3 := kept HH c12_3
  have R6_13 := Lib.hid (R6_12.out.below HH)
  have R7_13 := Lib.hid (R7_12.out.below HH)
  have W1A_13 := Lib.hid (W1A_12.out.below HH)
  have W1B_13 := Lib.hid (W1B_12.out.below HH)
  have I1_13 := Lib.hid (I1_12.out.below HH)
  have W2B_13 := Lib.hid (W2B_12.out.below HH)
  have W2A_13 := Lib.hid (W2A_12.out.below HH)
  have I2_13 := Lib.hid (I2_12.out.below HH)
  have W3A_13 := Lib.hid (W3A_12.out.below HH)
  have L_13 := Lib.hid hp
  have V_13 := Lib.hid (bel2 V_12.out HH)
  clear hb HH c12_0 c12_1 c12_2 c12_3 R6_12 R7_12 W1A_12 W1B_12 I1_12 W2B_12 W2A_12 I2_12 W3A_12 hp V_12
  go_wp2_with fail
  refine (wrap_any _ _ a11 _ _ _ _ _ _ _ _ rfl L_13.out).mono ?_
  rintro e v16 ⟨t31, z31, rfl, hp, hb⟩
  have HH : Below v15.heap.size v15 v16 := ((by repeat (first | with_reducible exact Below.refl _ _ | (with_reducible refine Below.drew ?_) | (with_reducible refine Below.alloc ?_ (by simp; try omega) _) | (with_reducible refine Below.setCell ?_ (by simp; try omega) _))) : Below v15.heap.size v15 _).trans (hb.mono (by simp; try omega))
  have c14_0 := kept HH c13_0
  have c14_1 := kept HH c13_1
  have c14_2 := kept HH c13_2
  have c14_3 := kept HH c13_3
  have R6_14 := Lib.hid (R6_13.out.below HH)
  have R7_14 := Lib.hid (R7_13.out.below HH)
  have W1A_14 := Lib.hid (W1A_13.out.below HH)
  have W1B_14 := Lib.hid (W1B_13.out.below HH)
  have I1_14 := Lib.hid (I1_13.out.below HH)
  have W2B_14 := Lib.hid (W2B_13.out.below HH)
  have W2A_14 := Lib.hid (W2A_13.out.below HH)
  have I2_14 := Lib.hid (I2_13.out.below HH)
  have W3A_14 := Lib.hid (W3A_13.out.below HH)
  have W3B_14 := Lib.hid hp
  have V_14 := Lib.hid (bel2 V_13.out HH)
  clear hb HH c13_0 c13_1 c13_2 c13_3 R6_13 R7_13 W1A_13 W1B_13 I1_13 W2B_13 W2A_13 I2_13 W3A_13 L_13 hp V_13
  go_wp2_with fail
  refine (mkidx _ _ _ _ _ _ _).mono ?_
  rintro e v17 ⟨d3, rfl, hp, hb⟩
  have HH : Below v16.heap.size v16 v17 := ((by repeat (first | with_reducible exact Below.refl _ _ | (with_reducible refine Below.drew ?_) | (with_reducible refine Below.alloc ?_ (by simp; try omega) _) | (with_reducible refine Below.setCell ?_ (by simp; try omega) _))) : Below v16.heap.size v16 _).trans (hb.mono (by simp; try omega))
  have c15_0 := kept HH c14_0
  have c15_1 := kept HH c14_1
  have c15_2 := kept HH c14_2
  have c15_3 := kept HH c14_3
  have R6_15 := Lib.hid (R6_14.out.below HH)
  have R7_15 := Lib.hid (R7_14.out.below HH)
  have W1A_15 := Lib.hid (W1A_14.out.below HH)
  have W1B_15 := Lib.hid (W1B_14.out.below HH)
  have I1_15 := Lib.hid (I1_14.out.below HH)
  have W2B_15 := Lib.hid (W2B_14.out.below HH)
  have W2A_15 := Lib.hid (W2A_14.out.below HH)
  have I2_15 := Lib.hid (I2_14.out.below HH)
  have W3A_15 := Lib.hid (W3A_14.out.below HH)
  have W3B_15 := Lib.hid (W3B_14.out.below HH)
  have I3_15 := Lib.hid hp
  have V_15 := Lib.hid (bel2 V_14.out HH)
  clear hb HH c14_0 c14_1 c14_2 c14_3 R6_14 R7_14 W1A_14 W1B_14 I1_14 W2B_14 W2A_14 I2_14 W3A_14 W3B_14 hp V_14
  go_wp2_with fail
  obtain ⟨g, hg⟩ : ∃ g, g = leq (a0 % 7).toNat a2 a4 len6 z6 a8 (a1 % 7).toNat a3 a5 len7 z7 a9 := ⟨_, rfl⟩
  have GC := Lib.hid (show leq (a0 % 7).toNat a2 a4 len6 z6 a8 (a1 % 7).toNat a3 a5 len7 z7 a9 = g from hg.symm)
  have GD := Lib.hid (show leq (a1 % 7).toNat a3 a5 len7 z7 a9 (a0 % 7).toNat a2 a4 len6 z6 a8 = g from by rw [leq_comm]; exact hg.symm)
  obtain ⟨gA, hgA⟩ : ∃ g, g = leq (a0 % 7).toNat a2 a4 len6 z6 a8 (a0 % 7).toNat a2 a4 len6 z6 a8 := ⟨_, rfl⟩
  have GA := Lib.hid hgA.symm
  obtain ⟨gB, hgB⟩ : ∃ g, g = leq (a1 % 7).toNat a3 a5 len7 z7 a9 (a1 % 7).toNat a3 a5 len7 z7 a9 := ⟨_, rfl⟩
  have GB := Lib.hid hgB.symm
  clear hg hgA hgB
  have HL : Hid (∀ W, Below v17.heap.size v17 W → Calls Try.prog 12 #[.int .u8 a0, .int .u8 a1, .float .f64 a2, .float .f64 a3, .bool a4, .bool a5, .slice p6 len6 q6, .slice p7 len7 q7, .int .u32 a8, .int .u32 a9] W (BPost g W)) := Lib.hid (fun W hW => by rw [← GC.out]; exact (le_any a0 a1 a2 a3 a4 a5 p6 p7 len6 q6 len7 q7 a8 a9 z6 z7 W x0 x1 y0 y1 (R6_15.out.below hW) (R7_15.out.below hW) (by omega) (by omega)).mono (fun _ _ h => BPostQ.below h))
  refine (HL.out _ (by repeat (first | with_reducible exact Below.refl _ _ | (with_reducible refine Below.drew ?_) | (with_reducible refine Below.alloc ?_ (by simp; try omega) _) | (with_reducible refine Below.setCell ?_ (by simp; try omega) _)))).mono ?_
  rintro e v18 ⟨rfl, hb⟩
  have HH : Below v17.heap.size v17 v18 := ((by repeat (first | with_reducible exact Below.refl _ _ | (with_reducible refine Below.drew ?_) | (with_reducible refine Below.alloc ?_ (by simp; try omega) _) | (with_reducible refine Below.setCell ?_ (by simp; try omega) _))) : Below v17.heap.size v17 _).trans (hb.mono (by simp; try omega))
  have c16_0 := kept HH c15_0
  have c16_1 := kept HH c15_1
  have c16_2 := kept HH c15_2
  have c16_3 := kept HH c15_3
  have c16_4 : v18.cell? ⟨v17.heap.size, 0, none⟩ = some (.iface 60 (.pointer (some ⟨d3, 0, none⟩))) := by rw [hb.cell (by simp)]; simp [go_sem]
  have c16_5 : v18.cell? ⟨v17.heap.size, 1, none⟩ = some (.int .i32 0) := by rw [hb.cell (by simp)]; simp [go_sem]
  have R6_16 := Lib.hid (R6_15.out.below HH)
  have R7_16 := Lib.hid (R7_15.out.below HH)
  have W1A_16 := Lib.hid (W1A_15.out.below HH)
  have W1B_16 := Lib.hid (W1B_15.out.below HH)
  have I1_16 := Lib.hid (I1_15.out.below HH)
  have W2B_16 := Lib.hid (W2B_15.out.below HH)
  have W2A_16 := Lib.hid (W2A_15.out.below HH)
  have I2_16 := Lib.hid (I2_15.out.below HH)
  have W3A_16 := Lib.hid (W3A_15.out.below HH)
  have W3B_16 := Lib.hid (W3B_15.out.below HH)
  have I3_16 := Lib.hid (I3_15.out.below HH)
  have V_16 := Lib.hid (bel2 V_15.out HH)
  clear hb HH c15_0 c15_1 c15_2 c15_3 R6_15 R7_15 W1A_15 W1B_15 I1_15 W2B_15 W2A_15 I2_15 W3A_15 W3B_15 I3_15 V_15
  clear HL
  go_wp2_with fail
  have HZ : Hid (∀ W, Below v18.heap.size v18 W → Calls Try.prog 30 #[.agg #[.iface 60 (.pointer (some ⟨d1, 0, none⟩)), .int .i32 0], .agg #[.iface 60 (.pointer (some ⟨d2, 0, none⟩)), .int .i32 0]] W (DP g g W)) := Lib.hid (fun W hW => by
    have := idx_any d1 d2 _ _ _ _ _ _ _ _ 0 0 0 0 _ _ W (I1_16.out.below hW) (I2_16.out.below hW) (fun W' hW' => dce_wr (a1 % 7).toNat a3 a5 p7 len7 q7 z7 a9 (a0 % 7).toNat a2 a4 p6 len6 q6 z6 a8 a11 a10 _ _ _ _ W' (by omega) (by omega) ((W1B_16.out.below hW).below hW') ((W2A_16.out.below hW).below hW') ((R7_16.out.below hW).below hW') ((R6_16.out.below hW).below hW') (by omega) (by omega)) (fun W' hW' => dce_wr (a0 % 7).toNat a2 a4 p6 len6 q6 z6 a8 (a1 % 7).toNat a3 a5 p7 len7 q7 z7 a9 a10 a11 _ _ _ _ W' (by omega) (by omega) ((W1A_16.out.below hW).below hW') ((W2B_16.out.below hW).below hW') ((R6_16.out.below hW).below hW') ((R7_16.out.below hW).below hW') (by omega) (by omega))
    rw [GC.out, GD.out, Bool.and_self] at this
    exact this)
  refine (zdce _ _ _ _ _ _ _ _ _ (fun W hW => HZ.out W (bel2 (by repeat (first | with_reducible exact Below.refl _ _ | (with_reducible refine Below.drew ?_) | (with_reducible refine Below.alloc ?_ (by simp; try omega) _) | (with_reducible refine Below.setCell ?_ (by simp; try omega) _))) hW))).mono ?_
  rintro e v19 ⟨rfl, hb⟩
  have HH : Below v18.heap.size v18 v19 := ((by repeat (first | with_reducible exact Below.refl _ _ | (with_reducible refine Below.drew ?_) | (with_reducible refine Below.alloc ?_ (by simp; try omega) _) | (with_reducible refine Below.setCell ?_ (by simp; try omega) _))) : Below v18.heap.size v18 _).trans (hb.mono (by simp; try omega))
  have c17_0 := kept HH c16_0
  have c17_1 := kept HH c16_1
  have c17_2 := kept HH c16_2
  have c17_3 := kept HH c16_3
  have c17_4 := kept HH c16_4
  have c17_5 := kept HH c16_5
  have R6_17 := Lib.hid (R6_16.out.below HH)
  have R7_17 := Lib.hid (R7_16.out.below HH)
  have W1A_17 := Lib.hid (W1A_16.out.below HH)
  have W1B_17 := Lib.hid (W1B_16.out.below HH)
  have I1_17 := Lib.hid (I1_16.out.below HH)
  have W3A_17 := Lib.hid (W3A_16.out.below HH)
  have W3B_17 := Lib.hid (W3B_16.out.below HH)
  have I3_17 := Lib.hid (I3_16.out.below HH)
  have V_17 := Lib.hid (bel2 V_16.out HH)
  clear hb HH c16_0 c16_1 c16_2 c16_3 c16_4 c16_5 R6_16 R7_16 W1A_16 W1B_16 I1_16 W2B_16 W2A_16 I2_16 W3A_16 W3B_16 I3_16 V_16
  clear HZ
  cases g
  all_goals
    go_wp2_with fail
    have HL : Hid (∀ W, Below v19.heap.size v19 W → Calls Try.prog 12 #[.int .u8 a0, .int .u8 a0, .float .f64 a2, .float .f64 a2, .bool a4, .bool a4, .slice p6 len6 q6, .slice p6 len6 q6, .int .u32 a8, .int .u32 a8] W (BPost gA W)) := Lib.hid (fun W hW => by rw [← GA.out]; exact (le_any a0 a0 a2 a2 a4 a4 p6 p6 len6 q6 len6 q6 a8 a8 z6 z6 W x0 x1 x0 x1 (R6_17.out.below hW) (R6_17.out.below hW) (by omega) (by omega)).mono (fun _ _ h => BPostQ.below h))
    refine (HL.out _ (by repeat (first | with_reducible exact Below.refl _ _ | (with_reducible refine Below.drew ?_) | (with_reducible refine Below.alloc ?_ (by simp; try omega) _) | (with_reducible refine Below.setCell ?_ (by simp; try omega) _)))).mono ?_
    rintro e v20 ⟨rfl, hb⟩
    have HH : Below v19.heap.size v19 v20 := ((by repeat (first | with_reducible exact Below.refl _ _ | (with_reducible refine Below.drew ?_) | (with_reducible refine Below.alloc ?_ (by simp; try omega) _) | (with_reducible refine Below.setCell ?_ (by simp; try omega) _))) : Below v19.heap.size v19 _).trans (hb.mono (by simp; try omega))
    have c18_0 := kept HH c17_0
    have c18_1 := kept HH c17_1
    have c18_2 := kept HH c17_2
    have c18_3 := kept HH c17_3
    have c18_4 := kept HH c17_4
    have c18_5 := kept HH c17_5
    have R6_18 := Lib.hid (R6_17.out.below HH)
    have R7_18 := Lib.hid (R7_17.out.below HH)
    have W1A_18 := Lib.hid (W1A_17.out.below HH)
    have W1B_18 := Lib.hid (W1B_17.out.below HH)
    have I1_18 := Lib.hid (I1_17.out.below HH)
    have W3A_18 := Lib.hid (W3A_17.out.below HH)
    have W3B_18 := Lib.hid (W3B_17.out.below HH)
    have I3_18 := Lib.hid (I3_17.out.below HH)
    have V_18 := Lib.hid (bel2 V_17.out HH)
    clear hb HH c17_0 c17_1 c17_2 c17_3 c17_4 c17_5 R6_17 R7_17 W1A_17 W1B_17 I1_17 W3A_17 W3B_17 I3_17 V_17
    clear HL
    go_wp2_with fail
    have HL : Hid (∀ W, Below v20.heap.size v20 W → Calls Try.prog 12 #[.int .u8 a1, .int .u8 a1, .float .f64 a3, .float .f64 a3, .bool a5, .bool a5, .slice p7 len7 q7, .slice p7 len7 q7, .int .u32 a9, .int .u32 a9] W (BPost gB W)) := Lib.hid (fun W hW => by rw [← GB.out]; exact (le_any a1 a1 a3 a3 a5 a5 p7 p7 len7 q7 len7 q7 a9 a9 z7 z7 W y0 y1 y0 y1 (R7_18.out.below hW) (R7_18.out.below hW) (by omega) (by omega)).mono (fun _ _ h => BPostQ.below h))
    refine (HL.out _ (by repeat (first | with_reducible exact Below.refl _ _ | (with_reducible refine Below.drew ?_) | (with_reducible refine Below.alloc ?_ (by simp; try omega) _) | (with_reducible refine Below.setCell ?_ (by simp; try omega) _)))).mono ?_
    rintro e v21 ⟨rfl, hb⟩
    have HH : Below v20.heap.size v20 v21 := ((by repeat (first | with_reducible exact Below.refl _ _ | (with_reducible refine Below.drew ?_) | (with_reducible refine Below.alloc ?_ (by simp; try omega) _) | (with_reducible refine Below.setCell ?_ (by simp; try omega) _))) : Below v20.heap.size v20 _).trans (hb.mono (by simp; try omega))
    have c19_0 := kept HH c18_0
    have c19_1 := kept HH c18_1
    have c19_2 := kept HH c18_2
    have c19_3 := kept HH c18_3
    have c19_4 := kept HH c18_4
    have c19_5 := kept HH c18_5
    have R6_19 := Lib.hid (R6_18.out.below HH)
    have R7_19 := Lib.hid (R7_18.out.below HH)
    have W1A_19 := Lib.hid (W1A_18.out.below HH)
    have W1B_19 := Lib.hid (W1B_18.out.below HH)
    have I1_19 := Lib.hid (I1_18.out.below HH)
    have W3A_19 := Lib.hid (W3A_18.out.below HH)
    have W3B_19 := Lib.hid (W3B_18.out.below HH)
    have I3_19 := Lib.hid (I3_18.out.below HH)
    have V_19 := Lib.hid (bel2 V_18.out HH)
    clear hb HH c18_0 c18_1 c18_2 c18_3 c18_4 c18_5 R6_18 R7_18 W1A_18 W1B_18 I1_18 W3A_18 W3B_18 I3_18 V_18
    clear HL
    go_wp2_with fail
    have HZ : Hid (∀ W, Below v21.heap.size v21 W → Calls Try.prog 30 #[.agg #[.iface 60 (.pointer (some ⟨d1, 0, none⟩)), .int .i32 0], .agg #[.iface 60 (.pointer (some ⟨d3, 0, none⟩)), .int .i32 0]] W (DP (gB && gA) gB W)) := Lib.hid (fun W hW => by
      have := idx_any d1 d3 _ _ _ _ _ _ _ _ 0 0 0 0 _ _ W (I1_19.out.below hW) (I3_19.out.below hW) (fun W' hW' => dce_wr (a1 % 7).toNat a3 a5 p7 len7 q7 z7 a9 (a1 % 7).toNat a3 a5 p7 len7 q7 z7 a9 a11 a11 _ _ _ _ W' (by omega) (by omega) ((W1B_19.out.below hW).below hW') ((W3B_19.out.below hW).below hW') ((R7_19.out.below hW).below hW') ((R7_19.out.below hW).below hW') (by omega) (by omega)) (fun W' hW' => dce_wr (a0 % 7).toNat a2 a4 p6 len6 q6 z6 a8 (a0 % 7).toNat a2 a4 p6 len6 q6 z6 a8 a10 a10 _ _ _ _ W' (by omega) (by omega) ((W1A_19.out.below hW).below hW') ((W3A_19.out.below hW).below hW') ((R6_19.out.below hW).below hW') ((R6_19.out.below hW).below hW') (by omega) (by omega))
      rw [GA.out, GB.out] at this
      exact this)
    refine (zdce _ _ _ _ _ _ _ _ _ (fun W hW => HZ.out W (bel2 (by repeat (first | with_reducible exact Below.refl _ _ | (with_reducible refine Below.drew ?_) | (with_reducible refine Below.alloc ?_ (by simp; try omega) _) | (with_reducible refine Below.setCell ?_ (by simp; try omega) _))) hW))).mono ?_
    rintro e v22 ⟨rfl, hb⟩
    have HH : Below v21.heap.size v21 v22 := ((by repeat (first | with_reducible exact Below.refl _ _ | (with_reducible refine Below.drew ?_) | (with_reducible refine Below.alloc ?_ (by simp; try omega) _) | (with_reducible refine Below.setCell ?_ (by simp; try omega) _))) : Below v21.heap.size v21 _).trans (hb.mono (by simp; try omega))
    have c20_0 := kept HH c19_0
    have c20_1 := kept HH c19_1
    have c20_2 := kept HH c19_2
    have c20_3 := kept HH c19_3
    have c20_4 := kept HH c19_4
    have c20_5 := kept HH c19_5
    have R6_20 := Lib.hid (R6_19.out.below HH)
    have R7_20 := Lib.hid (R7_19.out.below HH)
    have W1A_20 := Lib.hid (W1A_19.out.below HH)
    have W1B_20 := Lib.hid (W1B_19.out.below HH)
    have I1_20 := Lib.hid (I1_19.out.below HH)
    have W3A_20 := Lib.hid (W3A_19.out.below HH)
    have W3B_20 := Lib.hid (W3B_19.out.below HH)
    have I3_20 := Lib.hid (I3_19.out.below HH)
    have V_20 := Lib.hid (bel2 V_19.out HH)
    clear hb HH c19_0 c19_1 c19_2 c19_3 c19_4 c19_5 R6_19 R7_19 W1A_19 W1B_19 I1_19 W3A_19 W3B_19 I3_19 V_19
    clear HZ
    clear GA GB GC GD
    cases gA <;> cases gB
    all_goals
      go_wp2_with fail
      go_ret
      exact ⟨rfl, V_20.out⟩
end Go.Proofs.Ytgghakmfcodojaa.fnDuplicateCaseEqualsIndex
