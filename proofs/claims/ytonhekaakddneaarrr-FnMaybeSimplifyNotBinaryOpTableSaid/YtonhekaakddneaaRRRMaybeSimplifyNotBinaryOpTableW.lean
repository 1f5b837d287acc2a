/- Proved here: the walk of the law FnMaybeSimplifyNotBinaryOpTable (MaybeSimplifyNot over a binary expression of two identifiers, every operator), for every input. -/
import Derived.Test.YtonhekaakddneaaRRRMsn
import Derived.WalkKit
import Derived.WalkSpells
import Derived.WalkLawsBesides
import Derived.Lib.Hide
namespace Go.Proofs.YtonhekaakddneaaRRR.fnMaybeSimplifyNotBinaryOpTable
open Go.RowKit
set_option linter.unusedSimpArgs false
set_option linter.unusedVariables false
set_option maxRecDepth 100000 in
theorem as_ident (v : Value) (w : World) : Calls Try.prog 20 #[.iface 43 v] w fun e w' => e = .returned v ∧ w = w' := by
  go_enter Try.func20, Try.ntmps20
  go_wp2_with fail
  go_ret
  exact ⟨rfl, rfl⟩
set_option maxRecDepth 100000 in
theorem as_bin (v : Value) (w : World) : Calls Try.prog 25 #[.iface 68 v] w fun e w' => e = .returned v ∧ w = w' := by
  go_enter Try.func25, Try.ntmps25
  go_wp2_with fail
  go_ret
  exact ⟨rfl, rfl⟩
set_option maxRecDepth 100000 in
theorem as_un (v : Value) (w : World) : Calls Try.prog 19 #[.iface 57 v] w fun e w' => e = .returned v ∧ w = w' := by
  go_enter Try.func19, Try.ntmps19
  go_wp2_with fail
  go_ret
  exact ⟨rfl, rfl⟩
set_option maxRecDepth 100000 in
theorem neg26 (w : World) : Calls Try.prog 24 #[.int .u8 26] w fun e w' => e = .returned (.tuple #[.int .u8 27, .bool true]) ∧ w = w' := by
  go_enter Try.func24, Try.ntmps24
  go_wp2_with fail
  go_ret2
  exact ⟨rfl, rfl⟩
set_option maxRecDepth 100000 in
theorem neg27 (w : World) : Calls Try.prog 24 #[.int .u8 27] w fun e w' => e = .returned (.tuple #[.int .u8 26, .bool true]) ∧ w = w' := by
  go_enter Try.func24, Try.ntmps24
  go_wp2_with fail
  go_ret2
  exact ⟨rfl, rfl⟩
set_option maxRecDepth 100000 in
theorem neg28 (w : World) : Calls Try.prog 24 #[.int .u8 28] w fun e w' => e = .returned (.tuple #[.int .u8 29, .bool true]) ∧ w = w' := by
  go_enter Try.func24, Try.ntmps24
  go_wp2_with fail
  go_ret2
  exact ⟨rfl, rfl⟩
set_option maxRecDepth 100000 in
theorem neg29 (w : World) : Calls Try.prog 24 #[.int .u8 29] w fun e w' => e = .returned (.tuple #[.int .u8 28, .bool true]) ∧ w = w' := by
  go_enter Try.func24, Try.ntmps24
  go_wp2_with fail
  go_ret2
  exact ⟨rfl, rfl⟩
set_option maxRecDepth 100000 in
theorem negOther (a : Int) (w : World) (n1 : (a == 26) = false) (n2 : (a == 27) = false) (n3 : (a == 28) = false) (n4 : (a == 29) = false) : Calls Try.prog 24 #[.int .u8 a] w fun e w' => e = .returned (.tuple #[.int .u8 a, .bool false]) ∧ w = w' := by
  go_enter Try.func24, Try.ntmps24
  go_wp2_with fail
  go_ret2
  exact ⟨rfl, rfl⟩
theorem ptr_ne {b c : Nat} (h : b ≠ c) : ((some (⟨b, 0, none⟩ : Addr)) == some ⟨c, 0, none⟩) = false := by simp [h]

set_option maxRecDepth 100000 in
set_option maxHeartbeats 2000000 in
theorem walk26 (a1 : Int) (a2 : Int) (a3 : Int) (w : World) :
    Calls Try.prog 5 #[.int .u8 26, .int .i32 a1, .int .i32 a2, .int .i32 a3] w fun e w' => e = .returned (.bool true) ∧ Below w.heap.size w w' := by
  go_enter Try.func5, Try.ntmps5
  go_wp2_with fail
  refine (msn_bin26 (w.heap.size + 2) 43 43 (.pointer (some ⟨w.heap.size, 0, none⟩)) (.pointer (some ⟨w.heap.size + 1, 0, none⟩)) a2 a3 a1 _ ⟨by simp [go_sem], by simp [go_sem], by simp [go_sem], by simp [go_sem], by simp [go_sem]⟩).mono ?_
  rintro e w1 ⟨b, rfl, ⟨h0, h1, h2, h3, h4⟩, hlb, hb⟩
  have bel : Below w.heap.size w w1 := (show Below w.heap.size w _ from (by repeat (first | exact Below.refl _ _ | apply Below.drew | (refine Below.alloc ?_ (by simp; try omega) _) | (refine Below.setCell ?_ (by simp; try omega) _)))).trans (hb.mono (by simp; try omega))
  have hz := hb.size
  have hlt : b < w1.heap.size := World.block_lt_of_cell? _ _ h0
  simp only [World.size_alloc] at hz hlb
  clear hb
  go_wp2_with (first | (go_at_call 24; refine (neg26 _).mono ?_; rintro e w' ⟨rfl, rfl⟩) | (go_at_call 25; refine (as_bin _ _).mono ?_; rintro e w' ⟨rfl, rfl⟩) | (go_at_call 20; refine (as_ident _ _).mono ?_; rintro e w' ⟨rfl, rfl⟩))
  refine (msn_bin27 b 43 43 (.pointer (some ⟨w.heap.size, 0, none⟩)) (.pointer (some ⟨w.heap.size + 1, 0, none⟩)) a2 a3 a1 _ ⟨kAlloc h0, kAlloc h1, kAlloc h2, kAlloc h3, kAlloc h4⟩).mono ?_
  rintro e w2 ⟨b2, rfl, ⟨g0, g1, g2, g3, g4⟩, glb, hb2⟩
  have bel2 : Below w.heap.size w w2 := (bel.alloc bel.size _).trans (hb2.mono (by simp; try omega))
  have hlt2 : b2 < w2.heap.size := World.block_lt_of_cell? _ _ g0
  clear hb2 glb h0 h1 h2 h3 h4 bel hlt hz hlb
  go_wp2_with (first | (go_at_call 25; refine (as_bin _ _).mono ?_; rintro e w' ⟨rfl, rfl⟩) | (go_at_call 20; refine (as_ident _ _).mono ?_; rintro e w' ⟨rfl, rfl⟩))
  go_ret
  exact ⟨rfl, bel2.alloc bel2.size _⟩

set_option maxRecDepth 100000 in
set_option maxHeartbeats 2000000 in
theorem walk27 (a1 : Int) (a2 : Int) (a3 : Int) (w : World) :
    Calls Try.prog 5 #[.int .u8 27, .int .i32 a1, .int .i32 a2, .int .i32 a3] w fun e w' => e = .returned (.bool true) ∧ Below w.heap.size w w' := by
  go_enter Try.func5, Try.ntmps5
  go_wp2_with fail
  refine (msn_bin27 (w.heap.size + 2) 43 43 (.pointer (some ⟨w.heap.size, 0, none⟩)) (.pointer (some ⟨w.heap.size + 1, 0, none⟩)) a2 a3 a1 _ ⟨by simp [go_sem], by simp [go_sem], by simp [go_sem], by simp [go_sem], by simp [go_sem]⟩).mono ?_
  rintro e w1 ⟨b, rfl, ⟨h0, h1, h2, h3, h4⟩, hlb, hb⟩
  have bel : Below w.heap.size w w1 := (show Below w.heap.size w _ from (by repeat (first | exact Below.refl _ _ | apply Below.drew | (refine Below.alloc ?_ (by simp; try omega) _) | (refine Below.setCell ?_ (by simp; try omega) _)))).trans (hb.mono (by simp; try omega))
  have hz := hb.size
  have hlt : b < w1.heap.size := World.block_lt_of_cell? _ _ h0
  simp only [World.size_alloc] at hz hlb
  clear hb
  go_wp2_with (first | (go_at_call 24; refine (neg27 _).mono ?_; rintro e w' ⟨rfl, rfl⟩) | (go_at_call 25; refine (as_bin _ _).mono ?_; rintro e w' ⟨rfl, rfl⟩) | (go_at_call 20; refine (as_ident _ _).mono ?_; rintro e w' ⟨rfl, rfl⟩))
  refine (msn_bin26 b 43 43 (.pointer (some ⟨w.heap.size, 0, none⟩)) (.pointer (some ⟨w.heap.size + 1, 0, none⟩)) a2 a3 a1 _ ⟨kAlloc h0, kAlloc h1, kAlloc h2, kAlloc h3, kAlloc h4⟩).mono ?_
  rintro e w2 ⟨b2, rfl, ⟨g0, g1, g2, g3, g4⟩, glb, hb2⟩
  have bel2 : Below w.heap.size w w2 := (bel.alloc bel.size _).trans (hb2.mono (by simp; try omega))
  have hlt2 : b2 < w2.heap.size := World.block_lt_of_cell? _ _ g0
  clear hb2 glb h0 h1 h2 h3 h4 bel hlt hz hlb
  go_wp2_with (first | (go_at_call 25; refine (as_bin _ _).mono ?_; rintro e w' ⟨rfl, rfl⟩) | (go_at_call 20; refine (as_ident _ _).mono ?_; rintro e w' ⟨rfl, rfl⟩))
  go_ret
  exact ⟨rfl, bel2.alloc bel2.size _⟩

set_option maxRecDepth 100000 in
set_option maxHeartbeats 2000000 in
theorem walk28 (a1 : Int) (a2 : Int) (a3 : Int) (w : World) :
    Calls Try.prog 5 #[.int .u8 28, .int .i32 a1, .int .i32 a2, .int .i32 a3] w fun e w' => e = .returned (.bool true) ∧ Below w.heap.size w w' := by
  go_enter Try.func5, Try.ntmps5
  go_wp2_with fail
  refine (msn_bin28 (w.heap.size + 2) 43 43 (.pointer (some ⟨w.heap.size, 0, none⟩)) (.pointer (some ⟨w.heap.size + 1, 0, none⟩)) a2 a3 a1 _ ⟨by simp [go_sem], by simp [go_sem], by simp [go_sem], by simp [go_sem], by simp [go_sem]⟩).mono ?_
  rintro e w1 ⟨b, rfl, ⟨h0, h1, h2, h3, h4⟩, hlb, hb⟩
  have bel : Below w.heap.size w w1 := (show Below w.heap.size w _ from (by repeat (first | exact Below.refl _ _ | apply Below.drew | (refine Below.alloc ?_ (by simp; try omega) _) | (refine Below.setCell ?_ (by simp; try omega) _)))).trans (hb.mono (by simp; try omega))
  have hz := hb.size
  have hlt : b < w1.heap.size := World.block_lt_of_cell? _ _ h0
  simp only [World.size_alloc] at hz hlb
  clear hb
  go_wp2_with (first | (go_at_call 24; refine (neg28 _).mono ?_; rintro e w' ⟨rfl, rfl⟩) | (go_at_call 25; refine (as_bin _ _).mono ?_; rintro e w' ⟨rfl, rfl⟩) | (go_at_call 20; refine (as_ident _ _).mono ?_; rintro e w' ⟨rfl, rfl⟩))
  refine (msn_bin29 b 43 43 (.pointer (some ⟨w.heap.size, 0, none⟩)) (.pointer (some ⟨w.heap.size + 1, 0, none⟩)) a2 a3 a1 _ ⟨kAlloc h0, kAlloc h1, kAlloc h2, kAlloc h3, kAlloc h4⟩).mono ?_
  rintro e w2 ⟨b2, rfl, ⟨g0, g1, g2, g3, g4⟩, glb, hb2⟩
  have bel2 : Below w.heap.size w w2 := (bel.alloc bel.size _).trans (hb2.mono (by simp; try omega))
  have hlt2 : b2 < w2.heap.size := World.block_lt_of_cell? _ _ g0
  clear hb2 glb h0 h1 h2 h3 h4 bel hlt hz hlb
  go_wp2_with (first | (go_at_call 25; refine (as_bin _ _).mono ?_; rintro e w' ⟨rfl, rfl⟩) | (go_at_call 20; refine (as_ident _ _).mono ?_; rintro e w' ⟨rfl, rfl⟩))
  go_ret
  exact ⟨rfl, bel2.alloc bel2.size _⟩

set_option maxRecDepth 100000 in
set_option maxHeartbeats 2000000 in
theorem walk29 (a1 : Int) (a2 : Int) (a3 : Int) (w : World) :
    Calls Try.prog 5 #[.int .u8 29, .int .i32 a1, .int .i32 a2, .int .i32 a3] w fun e w' => e = .returned (.bool true) ∧ Below w.heap.size w w' := by
  go_enter Try.func5, Try.ntmps5
  go_wp2_with fail
  refine (msn_bin29 (w.heap.size + 2) 43 43 (.pointer (some ⟨w.heap.size, 0, none⟩)) (.pointer (some ⟨w.heap.size + 1, 0, none⟩)) a2 a3 a1 _ ⟨by simp [go_sem], by simp [go_sem], by simp [go_sem], by simp [go_sem], by simp [go_sem]⟩).mono ?_
  rintro e w1 ⟨b, rfl, ⟨h0, h1, h2, h3, h4⟩, hlb, hb⟩
  have bel : Below w.heap.size w w1 := (show Below w.heap.size w _ from (by repeat (first | exact Below.refl _ _ | apply Below.drew | (refine Below.alloc ?_ (by simp; try omega) _) | (refine Below.setCell ?_ (by simp; try omega) _)))).trans (hb.mono (by simp; try omega))
  have hz := hb.size
  have hlt : b < w1.heap.size := World.block_lt_of_cell? _ _ h0
  simp only [World.size_alloc] at hz hlb
  clear hb
  go_wp2_with (first | (go_at_call 24; refine (neg29 _).mono ?_; rintro e w' ⟨rfl, rfl⟩) | (go_at_call 25; refine (as_bin _ _).mono ?_; rintro e w' ⟨rfl, rfl⟩) | (go_at_call 20; refine (as_ident _ _).mono ?_; rintro e w' ⟨rfl, rfl⟩))
  refine (msn_bin28 b 43 43 (.pointer (some ⟨w.heap.size, 0, none⟩)) (.pointer (some ⟨w.heap.size + 1, 0, none⟩)) a2 a3 a1 _ ⟨kAlloc h0, kAlloc h1, kAlloc h2, kAlloc h3, kAlloc h4⟩).mono ?_
  rintro e w2 ⟨b2, rfl, ⟨g0, g1, g2, g3, g4⟩, glb, hb2⟩
  have bel2 : Below w.heap.size w w2 := (bel.alloc bel.size _).trans (hb2.mono (by simp; try omega))
  have hlt2 : b2 < w2.heap.size := World.block_lt_of_cell? _ _ g0
  clear hb2 glb h0 h1 h2 h3 h4 bel hlt hz hlb
  go_wp2_with (first | (go_at_call 25; refine (as_bin _ _).mono ?_; rintro e w' ⟨rfl, rfl⟩) | (go_at_call 20; refine (as_ident _ _).mono ?_; rintro e w' ⟨rfl, rfl⟩))
  go_ret
  exact ⟨rfl, bel2.alloc bel2.size _⟩

set_option maxRecDepth 100000 in
set_option maxHeartbeats 2000000 in
theorem walk36 (a1 : Int) (a2 : Int) (a3 : Int) (w : World) :
    Calls Try.prog 5 #[.int .u8 36, .int .i32 a1, .int .i32 a2, .int .i32 a3] w fun e w' => e = .returned (.bool true) ∧ Below w.heap.size w w' := by
  go_enter Try.func5, Try.ntmps5
  go_wp2_with fail
  refine (msn_comma (w.heap.size + 2) 43 (.pointer (some ⟨w.heap.size, 0, none⟩)) (some ⟨w.heap.size + 1, 0, none⟩) a2 a3 a1 _ ⟨by simp [go_sem], by simp [go_sem], by simp [go_sem], by simp [go_sem], by simp [go_sem]⟩).mono ?_
  rintro e w1 ⟨b, u, rfl, ⟨h0, h1, h2, h3, h4⟩, ⟨u0, u1, u2⟩, hlb, hlu, hb⟩
  have bel : Below w.heap.size w w1 := (show Below w.heap.size w _ from (by repeat (first | exact Below.refl _ _ | apply Below.drew | (refine Below.alloc ?_ (by simp; try omega) _) | (refine Below.setCell ?_ (by simp; try omega) _)))).trans (hb.mono (by simp; try omega))
  have hlt : b < w1.heap.size := World.block_lt_of_cell? _ _ h0
  have hlt2 : u < w1.heap.size := World.block_lt_of_cell? _ _ u0
  clear hb hlb hlu
  go_wp2_with (first | (go_at_call 24; refine (negOther _ _ rfl rfl rfl rfl).mono ?_; rintro e w' ⟨rfl, rfl⟩) | (go_at_call 25; refine (as_bin _ _).mono ?_; rintro e w' ⟨rfl, rfl⟩) | (go_at_call 20; refine (as_ident _ _).mono ?_; rintro e w' ⟨rfl, rfl⟩) | (go_at_call 19; refine (as_un _ _).mono ?_; rintro e w' ⟨rfl, rfl⟩))
  go_ret
  exact ⟨rfl, bel.alloc bel.size _⟩

set_option maxRecDepth 100000 in
set_option maxHeartbeats 2000000 in
theorem walkOther (a0 a1 : Int) (a2 : Int) (a3 : Int) (w : World) (m1 : 11 ≤ a0) (m2 : a0 ≤ 52) (n1 : (a0 == 26) = false) (n2 : (a0 == 27) = false) (n3 : (a0 == 28) = false) (n4 : (a0 == 29) = false) (n5 : (a0 == 36) = false) :
    Calls Try.prog 5 #[.int .u8 a0, .int .i32 a1, .int .i32 a2, .int .i32 a3] w fun e w' => e = .returned (.bool true) ∧ Below w.heap.size w w' := by
  go_enter Try.func5, Try.ntmps5
  go_wp2_with fail
  refine (msn_binOther (w.heap.size + 2) a1 a0 _ (by simp [go_sem]) n1 n2 n3 n4 n5).mono ?_
  rintro e w1 ⟨rfl, hb⟩
  have bel : Below w.heap.size w w1 := (show Below w.heap.size w _ from (by repeat (first | exact Below.refl _ _ | apply Below.drew | (refine Below.alloc ?_ (by simp; try omega) _) | (refine Below.setCell ?_ (by simp; try omega) _)))).trans (hb.mono (by simp; try omega))
  clear hb
  go_wp2_with (first | (go_at_call 24; refine (negOther _ _ n1 n2 n3 n4).mono ?_; rintro e w' ⟨rfl, rfl⟩))
  go_ret
  exact ⟨rfl, bel.alloc bel.size _⟩

set_option maxRecDepth 100000 in
set_option maxHeartbeats 2000000 in
theorem walk (a0 : Int) (a1 : Int) (a2 : Int) (a3 : Int) (w : World) (w0 : (Lit.int .u8 a0).wf = true) (w1 : (Lit.int .i32 a1).wf = true) (w2 : (Lit.int .i32 a2).wf = true) (w3 : (Lit.int .i32 a3).wf = true) :
    Calls Try.prog 5 #[.int .u8 a0, .int .i32 a1, .int .i32 a2, .int .i32 a3] w fun e w' => e = .returned (.bool true) ∧ Below w.heap.size w w' := by
  obtain ⟨h0, h1⟩ := wf_u8 w0
  clear w0 w1 w2 w3
  by_cases m1 : a0 < 11
  · go_enter Try.func5, Try.ntmps5
    go_wp2_with fail
    go_ret
    exact ⟨rfl, Below.refl _ _⟩
  by_cases m2 : 52 < a0
  · go_enter Try.func5, Try.ntmps5
    go_wp2_with fail
    go_ret
    exact ⟨rfl, Below.refl _ _⟩
  by_cases c1 : a0 = 26
  · subst c1; exact walk26 a1 a2 a3 w
  by_cases c2 : a0 = 27
  · subst c2; exact walk27 a1 a2 a3 w
  by_cases c3 : a0 = 28
  · subst c3; exact walk28 a1 a2 a3 w
  by_cases c4 : a0 = 29
  · subst c4; exact walk29 a1 a2 a3 w
  by_cases c5 : a0 = 36
  · subst c5; exact walk36 a1 a2 a3 w
  exact walkOther a0 a1 a2 a3 w (by omega) (by omega) (by simp [c1]) (by simp [c2]) (by simp [c3]) (by simp [c4]) (by simp [c5])
end Go.Proofs.YtonhekaakddneaaRRR.fnMaybeSimplifyNotBinaryOpTable
