/- Proved here: the law's size guards return. Conditions: the lists' cells and lengths, as stated. -/
import Derived.Test.YthgcchgpplblbaaAIB
import Derived.WalkKit
import Derived.WalkSpells
import Derived.WalkLawsBesides
import Derived.Lib.Hide
import Derived.Lib.SliceRun
import Derived.Deep.RegionWith
namespace Go.Proofs.Ythgcchgpplblbaa
open Go.RowKit
set_option linter.unusedSimpArgs false
set_option linter.unusedVariables false

def sAt (zs : List ByteArray) (i : Nat) : ByteArray := zs.getD i ByteArray.empty
def SomeBool (w : World) (e : Ending) (w' : World) : Prop := ∃ b, e = .returned (.bool b) ∧ w = w'
def SomeInt (w : World) (e : Ending) (w' : World) : Prop := ∃ r : Int, e = .returned (.int .i64 r) ∧ w = w'
def TRel (n : Nat) (t i : Value) : Prop := ∃ (k : Nat) (m : Int), k ≤ n ∧ 0 ≤ m ∧ m ≤ 1048576 ∧ t = .int .i64 m ∧ i = .int .i64 k
def URel (n : Nat) (t i : Value) : Prop := ∃ (k : Nat) (m : Int), k ≤ n ∧ t = .int .i64 m ∧ i = .int .i64 k

set_option maxRecDepth 100000 in
set_option maxHeartbeats 1000000 in
theorem i23 (a : Option Addr) (n c : Nat) (zs : List ByteArray) (w : World) (h : RowV w a n (fun i => .string (sAt zs i))) (hn : n ≤ 1048576) :
    Calls Try.prog 23 #[.slice a n c] w (SomeInt w) := by
  have H := Lib.hid h
  clear h
  go_enter Try.func23, Try.ntmps23
  go_wp2_with fail
  go_loop [3, 4] (fun t i => URel n t i) (fun _ i => n - (intOf i).toNat)
  case atStart => exact ⟨0, _, by omega, rfl, rfl⟩
  case round =>
    obtain ⟨k, m, hk, rfl, rfl⟩ := hrel
    by_cases hlt : k < n
    · obtain ⟨B, off, rfl, hc⟩ := H.out (by omega)
      have c0 := hc k hlt
      clear hc
      obtain ⟨s, hs⟩ : ∃ s, s = sAt zs k := ⟨_, rfl⟩
      simp only [← hs] at c0
      clear hs
      go_wp2_with fail
      all_goals first | (go_ret; exact ⟨_, rfl, rfl⟩) | (go_round; (case rel => exact ⟨k + 1, _, by omega, rfl, by go_num⟩); (case measure => (simp [intOf]; omega)))
    · have e : k = n := by omega
      subst e
      go_wp2_with fail
      go_ret
      exact ⟨_, rfl, rfl⟩

set_option maxRecDepth 100000 in
set_option maxHeartbeats 1000000 in
theorem i5_some (a0 : Option Addr) (n0 c0 : Nat) (z0 : List ByteArray) (a1 : Option Addr) (n1 c1 : Nat) (a2 : Option Addr) (n2 c2 : Nat) (a3 : Option Addr) (n3 c3 : Nat) (z3 : List ByteArray) (a4 : Option Addr) (n4 c4 : Nat) (a5 : Option Addr) (n5 c5 : Nat) (w : World) (h : RowV w a0 n0 (fun i => .string (sAt z0 i))) (h3 : RowV w a3 n3 (fun i => .string (sAt z3 i))) (l0 : n0 ≤ 1048576) (l1 : n1 ≤ 1048576) (l2 : n2 ≤ 1048576) (l3 : n3 ≤ 1048576) (l4 : n4 ≤ 1048576) (l5 : n5 ≤ 1048576) :
    Calls Try.prog 5 #[.slice a0 n0 c0, .slice a1 n1 c1, .slice a2 n2 c2, .slice a3 n3 c3, .slice a4 n4 c4, .slice a5 n5 c5] w (SomeInt w) := by
  have HA := Lib.hid (i23 a0 n0 c0 z0 w h l0)
  have HB := Lib.hid (i23 a3 n3 c3 z3 w h3 l3)
  clear h h3
  go_enter Try.func5, Try.ntmps5
  go_wp2_with fail
  refine HA.out.mono ?_
  rintro e w' ⟨r, rfl, rfl⟩
  go_wp2_with fail
  refine HB.out.mono ?_
  rintro e w' ⟨r', rfl, rfl⟩
  go_wp2_with fail
  go_ret
  exact ⟨_, rfl, rfl⟩

set_option maxRecDepth 100000 in
set_option maxHeartbeats 1000000 in
theorem i5_b0 (a0 : Option Addr) (n0 c0 : Nat) (z0 : List ByteArray) (a1 : Option Addr) (n1 c1 : Nat) (a2 : Option Addr) (n2 c2 : Nat) (a3 : Option Addr) (n3 c3 : Nat) (z3 : List ByteArray) (a4 : Option Addr) (n4 c4 : Nat) (a5 : Option Addr) (n5 c5 : Nat) (w : World) (l0 : 1048576 < n0) (m0 : n0 ≤ 9223372036854775807) :
    Calls Try.prog 5 #[.slice a0 n0 c0, .slice a1 n1 c1, .slice a2 n2 c2, .slice a3 n3 c3, .slice a4 n4 c4, .slice a5 n5 c5] w (Is (.int .i64 1048577) w) := by
  go_enter Try.func5, Try.ntmps5
  go_wp2_with fail
  go_ret
  exact ⟨rfl, rfl⟩

set_option maxRecDepth 100000 in
set_option maxHeartbeats 1000000 in
theorem i5_b1 (a0 : Option Addr) (n0 c0 : Nat) (z0 : List ByteArray) (a1 : Option Addr) (n1 c1 : Nat) (a2 : Option Addr) (n2 c2 : Nat) (a3 : Option Addr) (n3 c3 : Nat) (z3 : List ByteArray) (a4 : Option Addr) (n4 c4 : Nat) (a5 : Option Addr) (n5 c5 : Nat) (w : World) (l0 : n0 ≤ 1048576) (l1 : 1048576 < n1) (m1 : n1 ≤ 9223372036854775807) :
    Calls Try.prog 5 #[.slice a0 n0 c0, .slice a1 n1 c1, .slice a2 n2 c2, .slice a3 n3 c3, .slice a4 n4 c4, .slice a5 n5 c5] w (Is (.int .i64 1048577) w) := by
  go_enter Try.func5, Try.ntmps5
  go_wp2_with fail
  go_ret
  exact ⟨rfl, rfl⟩

set_option maxRecDepth 100000 in
set_option maxHeartbeats 1000000 in
theorem i5_b2 (a0 : Option Addr) (n0 c0 : Nat) (z0 : List ByteArray) (a1 : Option Addr) (n1 c1 : Nat) (a2 : Option Addr) (n2 c2 : Nat) (a3 : Option Addr) (n3 c3 : Nat) (z3 : List ByteArray) (a4 : Option Addr) (n4 c4 : Nat) (a5 : Option Addr) (n5 c5 : Nat) (w : World) (l0 : n0 ≤ 1048576) (l1 : n1 ≤ 1048576) (l2 : 1048576 < n2) (m2 : n2 ≤ 9223372036854775807) :
    Calls Try.prog 5 #[.slice a0 n0 c0, .slice a1 n1 c1, .slice a2 n2 c2, .slice a3 n3 c3, .slice a4 n4 c4, .slice a5 n5 c5] w (Is (.int .i64 1048577) w) := by
  go_enter Try.func5, Try.ntmps5
  go_wp2_with fail
  go_ret
  exact ⟨rfl, rfl⟩

set_option maxRecDepth 100000 in
set_option maxHeartbeats 1000000 in
theorem i5_b3 (a0 : Option Addr) (n0 c0 : Nat) (z0 : List ByteArray) (a1 : Option Addr) (n1 c1 : Nat) (a2 : Option Addr) (n2 c2 : Nat) (a3 : Option Addr) (n3 c3 : Nat) (z3 : List ByteArray) (a4 : Option Addr) (n4 c4 : Nat) (a5 : Option Addr) (n5 c5 : Nat) (w : World) (l0 : n0 ≤ 1048576) (l1 : n1 ≤ 1048576) (l2 : n2 ≤ 1048576) (l3 : 1048576 < n3) (m3 : n3 ≤ 9223372036854775807) :
    Calls Try.prog 5 #[.slice a0 n0 c0, .slice a1 n1 c1, .slice a2 n2 c2, .slice a3 n3 c3, .slice a4 n4 c4, .slice a5 n5 c5] w (Is (.int .i64 1048577) w) := by
  go_enter Try.func5, Try.ntmps5
  go_wp2_with fail
  go_ret
  exact ⟨rfl, rfl⟩

set_option maxRecDepth 100000 in
set_option maxHeartbeats 1000000 in
theorem i5_b4 (a0 : Option Addr) (n0 c0 : Nat) (z0 : List ByteArray) (a1 : Option Addr) (n1 c1 : Nat) (a2 : Option Addr) (n2 c2 : Nat) (a3 : Option Addr) (n3 c3 : Nat) (z3 : List ByteArray) (a4 : Option Addr) (n4 c4 : Nat) (a5 : Option Addr) (n5 c5 : Nat) (w : World) (l0 : n0 ≤ 1048576) (l1 : n1 ≤ 1048576) (l2 : n2 ≤ 1048576) (l3 : n3 ≤ 1048576) (l4 : 1048576 < n4) (m4 : n4 ≤ 9223372036854775807) :
    Calls Try.prog 5 #[.slice a0 n0 c0, .slice a1 n1 c1, .slice a2 n2 c2, .slice a3 n3 c3, .slice a4 n4 c4, .slice a5 n5 c5] w (Is (.int .i64 1048577) w) := by
  go_enter Try.func5, Try.ntmps5
  go_wp2_with fail
  go_ret
  exact ⟨rfl, rfl⟩

set_option maxRecDepth 100000 in
set_option maxHeartbeats 1000000 in
theorem i5_b5 (a0 : Option Addr) (n0 c0 : Nat) (z0 : List ByteArray) (a1 : Option Addr) (n1 c1 : Nat) (a2 : Option Addr) (n2 c2 : Nat) (a3 : Option Addr) (n3 c3 : Nat) (z3 : List ByteArray) (a4 : Option Addr) (n4 c4 : Nat) (a5 : Option Addr) (n5 c5 : Nat) (w : World) (l0 : n0 ≤ 1048576) (l1 : n1 ≤ 1048576) (l2 : n2 ≤ 1048576) (l3 : n3 ≤ 1048576) (l4 : n4 ≤ 1048576) (l5 : 1048576 < n5) (m5 : n5 ≤ 9223372036854775807) :
    Calls Try.prog 5 #[.slice a0 n0 c0, .slice a1 n1 c1, .slice a2 n2 c2, .slice a3 n3 c3, .slice a4 n4 c4, .slice a5 n5 c5] w (Is (.int .i64 1048577) w) := by
  go_enter Try.func5, Try.ntmps5
  go_wp2_with fail
  go_ret
  exact ⟨rfl, rfl⟩

set_option maxRecDepth 100000 in
set_option maxHeartbeats 4000000 in
theorem b4 (a0 : Option Addr) (n0 c0 : Nat) (z0 : List ByteArray) (a1 : Option Addr) (n1 c1 : Nat) (a2 : Option Addr) (n2 c2 : Nat) (a3 : Option Addr) (n3 c3 : Nat) (z3 : List ByteArray) (a4 : Option Addr) (n4 c4 : Nat) (a5 : Option Addr) (n5 c5 : Nat) (w : World) (h : RowV w a0 n0 (fun i => .string (sAt z0 i))) (h3 : RowV w a3 n3 (fun i => .string (sAt z3 i))) (s0 : ∀ i, (sAt z0 i).size ≤ 9223372036854775807) (s3 : ∀ i, (sAt z3 i).size ≤ 9223372036854775807) (m0 : n0 ≤ 9223372036854775807) (m1 : n1 ≤ 9223372036854775807) (m2 : n2 ≤ 9223372036854775807) (m3 : n3 ≤ 9223372036854775807) (m4 : n4 ≤ 9223372036854775807) (m5 : n5 ≤ 9223372036854775807) :
    Calls Try.prog 4 #[.slice a0 n0 c0, .slice a1 n1 c1, .slice a2 n2 c2, .slice a3 n3 c3, .slice a4 n4 c4, .slice a5 n5 c5] w (SomeBool w) := by
  have H0 := Lib.hid h
  have H3 := Lib.hid h3
  have SH0 := Lib.hid s0
  have SH3 := Lib.hid s3
  clear h h3 s0 s3
  go_enter Try.func4, Try.ntmps4
  go_wp2_with fail
  all_goals (try (go_ret; exact ⟨_, rfl, rfl⟩))
  go_loop [13, 14] (fun t i => TRel n0 t i) (fun _ i => n0 - (intOf i).toNat)
  case atStart => exact ⟨0, _, by omega, by omega, by omega, rfl, rfl⟩
  case round =>
    obtain ⟨k, m, hk, hm0, hm1, rfl, rfl⟩ := hrel
    by_cases hlt : k < n0
    · obtain ⟨B, off, rfl, hc⟩ := H0.out (by omega)
      have c0 := hc k hlt
      clear hc
      obtain ⟨s, hs⟩ : ∃ s, s = sAt z0 k := ⟨_, rfl⟩
      have hl := SH0.out k
      simp only [← hs] at c0 hl
      clear hs
      by_cases l1 : s.size ≤ 1048576
      · go_wp2_with fail
        all_goals first | (go_ret; exact ⟨_, rfl, rfl⟩) | (go_round; (case rel => exact ⟨k + 1, _, by omega, by omega, by omega, rfl, by go_num⟩); (case measure => (simp [intOf]; omega)))
      · go_wp2_with fail
        go_ret
        exact ⟨_, rfl, rfl⟩
    · have e : k = n0 := by omega
      subst e
      have e9 : decide (k < k) = false := by simp
      go_wp2_with fail
      all_goals (try (go_ret; exact ⟨_, rfl, rfl⟩))
      go_loop [13, 15] (fun t i => TRel n3 t i) (fun _ i => n3 - (intOf i).toNat)
      case atStart => exact ⟨0, _, by omega, by omega, by omega, rfl, rfl⟩
      case round =>
        obtain ⟨k, m, hk, hm0, hm1, rfl, rfl⟩ := hrel
        by_cases hlt : k < n3
        · obtain ⟨B, off, rfl, hc⟩ := H3.out (by omega)
          have c0 := hc k hlt
          clear hc
          obtain ⟨s, hs⟩ : ∃ s, s = sAt z3 k := ⟨_, rfl⟩
          have hl := SH3.out k
          simp only [← hs] at c0 hl
          clear hs
          by_cases l1 : s.size ≤ 1048576
          · go_wp2_with fail
            all_goals first | (go_ret; exact ⟨_, rfl, rfl⟩) | (go_round; (case rel => exact ⟨k + 1, _, by omega, by omega, by omega, rfl, by go_num⟩); (case measure => (simp [intOf]; omega)))
          · go_wp2_with fail
            go_ret
            exact ⟨_, rfl, rfl⟩
        · have e : k = n3 := by omega
          subst e
          have e9 : decide (k < k) = false := by simp
          go_wp2_with fail
          all_goals (try (go_ret; exact ⟨_, rfl, rfl⟩))
end Go.Proofs.Ythgcchgpplblbaa
