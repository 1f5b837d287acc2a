/- Proved here: the size guards of the two laws on jsxExprsEqual return. Conditions: the lists' cells and lengths, as stated. -/
import Derived.Test.YtcbbnkccfbgahaaJXA
import Derived.WalkKit
import Derived.WalkSpells
import Derived.WalkLawsBesides
import Derived.Lib.Hide
import Derived.Lib.SliceRun
import Derived.Deep.RegionWith
namespace Go.Proofs.Ytcbbnkccfbgahaa
open Go.RowKit
set_option linter.unusedSimpArgs false
set_option linter.unusedVariables false

def SomeBool (w : World) (e : Ending) (w' : World) : Prop := ∃ b, e = .returned (.bool b) ∧ w = w'
def SomeInt (w : World) (e : Ending) (w' : World) : Prop := ∃ n : Int, 0 ≤ n ∧ n ≤ 2097152 ∧ e = .returned (.int .i64 n) ∧ w = w'
def TRel (n : Nat) (t i : Value) : Prop := ∃ (k : Nat) (m : Int), k ≤ n ∧ 0 ≤ m ∧ m ≤ 1048576 ∧ t = .int .i64 m ∧ i = .int .i64 k

set_option maxRecDepth 100000 in
set_option maxHeartbeats 2000000 in
theorem bytes9 (a b : Option Addr) (n p c d : Nat) (zs ys : List ByteArray) (x y : Int) (w : World) (h : RowV w a n (fun i => .string (sAt zs i))) (h2 : RowV w b p (fun i => .string (sAt ys i))) (hl : ∀ i, (sAt zs i).size ≤ 9223372036854775807) (hl2 : ∀ i, (sAt ys i).size ≤ 9223372036854775807) (hn : n ≤ 9223372036854775807) (hp : p ≤ 9223372036854775807) :
    Calls Try.prog 9 #[.slice a n c, .int .u8 x, .slice b p d, .int .u8 y] w (SomeBool w) := by
  have H := Lib.hid h
  have H2 := Lib.hid h2
  have L := Lib.hid hl
  have L2 := Lib.hid hl2
  clear h h2 hl hl2
  by_cases q1 : n ≤ 1048576
  · go_enter Try.func9, Try.ntmps9
    go_wp2_with fail
    go_loop [9, 10] (fun t i => TRel n t i) (fun _ i => n - (intOf i).toNat)
    case atStart => exact ⟨0, _, by omega, by omega, by omega, rfl, rfl⟩
    case round =>
      obtain ⟨k, m, hk, hm0, hm1, rfl, rfl⟩ := hrel
      by_cases hlt : k < n
      · obtain ⟨B, off, rfl, hc⟩ := H.out (by omega)
        have c0 := hc k hlt
        clear hc
        have hB : B < w.heap.size := World.block_lt_of_cell? _ _ c0
        have hl := L.out k
        obtain ⟨s, hs⟩ : ∃ s, s = sAt zs k := ⟨_, rfl⟩
        simp only [← hs] at c0 hl
        clear hs
        by_cases l1 : s.size ≤ 1048576
        · by_cases l2 : m + s.size ≤ 1048576
          · go_wp2_with fail
            go_round
            case rel => exact ⟨k + 1, _, by omega, by omega, by omega, rfl, by go_num⟩
            case measure => simp [intOf]; omega
          · have l3 : 1048576 < m + s.size := by omega
            clear l2
            go_wp2_with fail
            go_ret
            exact ⟨_, rfl, rfl⟩
        · have l3 : 1048576 < s.size := by omega
          clear l1
          go_wp2_with fail
          go_ret
          exact ⟨_, rfl, rfl⟩
      · have e : k = n := by omega
        subst e
        by_cases q1 : p ≤ 1048576
        · by_cases q2 : m + p ≤ 1048576
          · go_wp2_with fail
            go_loop [9, 11] (fun t i => TRel p t i) (fun _ i => p - (intOf i).toNat)
            case atStart => exact ⟨0, _, by omega, by omega, by omega, rfl, rfl⟩
            case round =>
              obtain ⟨k, m, hk, hm0, hm1, rfl, rfl⟩ := hrel
              by_cases hlt : k < p
              · obtain ⟨B, off, rfl, hc⟩ := H2.out (by omega)
                have c0 := hc k hlt
                clear hc
                have hB : B < w.heap.size := World.block_lt_of_cell? _ _ c0
                have hl := L2.out k
                obtain ⟨s, hs⟩ : ∃ s, s = sAt ys k := ⟨_, rfl⟩
                simp only [← hs] at c0 hl
                clear hs
                by_cases l1 : s.size ≤ 1048576
                · by_cases l2 : m + s.size ≤ 1048576
                  · go_wp2_with fail
                    go_round
                    case rel => exact ⟨k + 1, _, by omega, by omega, by omega, rfl, by go_num⟩
                    case measure => simp [intOf]; omega
                  · have l3 : 1048576 < m + s.size := by omega
                    clear l2
                    go_wp2_with fail
                    go_ret
                    exact ⟨_, rfl, rfl⟩
                · have l3 : 1048576 < s.size := by omega
                  clear l1
                  go_wp2_with fail
                  go_ret
                  exact ⟨_, rfl, rfl⟩
              · have e : k = p := by omega
                subst e
                go_wp2_with fail
                go_ret
                exact ⟨_, rfl, rfl⟩
          · have q3 : 1048576 < m + p := by omega
            clear q2
            go_wp2_with fail
            go_ret
            exact ⟨_, rfl, rfl⟩
        · have q3 : 1048576 < p := by omega
          clear q1
          go_wp2_with fail
          go_ret
          exact ⟨_, rfl, rfl⟩
  · have q3 : 1048576 < n := by omega
    clear q1
    go_enter Try.func9, Try.ntmps9
    go_wp2_with fail
    go_ret
    exact ⟨_, rfl, rfl⟩

set_option maxRecDepth 100000 in
set_option maxHeartbeats 2000000 in
theorem bytes15 (a b : Option Addr) (n p c d : Nat) (zs ys : List ByteArray) (x y : Int) (w : World) (h : RowV w a n (fun i => .string (sAt zs i))) (h2 : RowV w b p (fun i => .string (sAt ys i))) (hl : ∀ i, (sAt zs i).size ≤ 9223372036854775807) (hl2 : ∀ i, (sAt ys i).size ≤ 9223372036854775807) (hn : n ≤ 9223372036854775807) (hp : p ≤ 9223372036854775807) :
    Calls Try.prog 15 #[.slice a n c, .int .u8 x, .slice b p d, .int .u8 y] w (SomeBool w) := by
  have H := Lib.hid h
  have H2 := Lib.hid h2
  have L := Lib.hid hl
  have L2 := Lib.hid hl2
  clear h h2 hl hl2
  by_cases q1 : n ≤ 1048576
  · go_enter Try.func15, Try.ntmps15
    go_wp2_with fail
    go_loop [9, 10] (fun t i => TRel n t i) (fun _ i => n - (intOf i).toNat)
    case atStart => exact ⟨0, _, by omega, by omega, by omega, rfl, rfl⟩
    case round =>
      obtain ⟨k, m, hk, hm0, hm1, rfl, rfl⟩ := hrel
      by_cases hlt : k < n
      · obtain ⟨B, off, rfl, hc⟩ := H.out (by omega)
        have c0 := hc k hlt
        clear hc
        have hB : B < w.heap.size := World.block_lt_of_cell? _ _ c0
        have hl := L.out k
        obtain ⟨s, hs⟩ : ∃ s, s = sAt zs k := ⟨_, rfl⟩
        simp only [← hs] at c0 hl
        clear hs
        by_cases l1 : s.size ≤ 1048576
        · by_cases l2 : m + s.size ≤ 1048576
          · go_wp2_with fail
            go_round
            case rel => exact ⟨k + 1, _, by omega, by omega, by omega, rfl, by go_num⟩
            case measure => simp [intOf]; omega
          · have l3 : 1048576 < m + s.size := by omega
            clear l2
            go_wp2_with fail
            go_ret
            exact ⟨_, rfl, rfl⟩
        · have l3 : 1048576 < s.size := by omega
          clear l1
          go_wp2_with fail
          go_ret
          exact ⟨_, rfl, rfl⟩
      · have e : k = n := by omega
        subst e
        by_cases q1 : p ≤ 1048576
        · by_cases q2 : m + p ≤ 1048576
          · go_wp2_with fail
            go_loop [9, 11] (fun t i => TRel p t i) (fun _ i => p - (intOf i).toNat)
            case atStart => exact ⟨0, _, by omega, by omega, by omega, rfl, rfl⟩
            case round =>
              obtain ⟨k, m, hk, hm0, hm1, rfl, rfl⟩ := hrel
              by_cases hlt : k < p
              · obtain ⟨B, off, rfl, hc⟩ := H2.out (by omega)
                have c0 := hc k hlt
                clear hc
                have hB : B < w.heap.size := World.block_lt_of_cell? _ _ c0
                have hl := L2.out k
                obtain ⟨s, hs⟩ : ∃ s, s = sAt ys k := ⟨_, rfl⟩
                simp only [← hs] at c0 hl
                clear hs
                by_cases l1 : s.size ≤ 1048576
                · by_cases l2 : m + s.size ≤ 1048576
                  · go_wp2_with fail
                    go_round
                    case rel => exact ⟨k + 1, _, by omega, by omega, by omega, rfl, by go_num⟩
                    case measure => simp [intOf]; omega
                  · have l3 : 1048576 < m + s.size := by omega
                    clear l2
                    go_wp2_with fail
                    go_ret
                    exact ⟨_, rfl, rfl⟩
                · have l3 : 1048576 < s.size := by omega
                  clear l1
                  go_wp2_with fail
                  go_ret
                  exact ⟨_, rfl, rfl⟩
              · have e : k = p := by omega
                subst e
                go_wp2_with fail
                go_ret
                exact ⟨_, rfl, rfl⟩
          · have q3 : 1048576 < m + p := by omega
            clear q2
            go_wp2_with fail
            go_ret
            exact ⟨_, rfl, rfl⟩
        · have q3 : 1048576 < p := by omega
          clear q1
          go_wp2_with fail
          go_ret
          exact ⟨_, rfl, rfl⟩
  · have q3 : 1048576 < n := by omega
    clear q1
    go_enter Try.func15, Try.ntmps15
    go_wp2_with fail
    go_ret
    exact ⟨_, rfl, rfl⟩

set_option maxRecDepth 100000 in
set_option maxHeartbeats 1000000 in
theorem pbytes (a : Option Addr) (n c : Nat) (zs : List ByteArray) (w : World) (h : RowV w a n (fun i => .string (sAt zs i))) (hl : ∀ i, (sAt zs i).size ≤ 9223372036854775807) (hn : n ≤ 65536) :
    Calls Try.prog 33 #[.slice a n c] w (SomeInt w) := by
  have H := Lib.hid h
  have L := Lib.hid hl
  clear h hl
  go_enter Try.func33, Try.ntmps33
  go_wp2_with fail
  go_loop [3, 4] (fun t i => TRel n t i) (fun _ i => n - (intOf i).toNat)
  case atStart => exact ⟨0, _, by omega, by omega, by omega, rfl, rfl⟩
  case round =>
    obtain ⟨k, m, hk, hm0, hm1, rfl, rfl⟩ := hrel
    by_cases hlt : k < n
    · obtain ⟨B, off, rfl, hc⟩ := H.out (by omega)
      have c0 := hc k hlt
      clear hc
      have hB : B < w.heap.size := World.block_lt_of_cell? _ _ c0
      have hl := L.out k
      obtain ⟨s, hs⟩ : ∃ s, s = sAt zs k := ⟨_, rfl⟩
      simp only [← hs] at c0 hl
      clear hs
      by_cases l1 : s.size ≤ 1048576
      · by_cases l2 : m + s.size ≤ 1048576
        · go_wp2_with fail
          go_round
          case rel => exact ⟨k + 1, _, by omega, by omega, by omega, rfl, by go_num⟩
          case measure => simp [intOf]; omega
        · have l3 : 1048576 < m + s.size := by omega
          clear l2
          go_wp2_with fail
          go_ret
          exact ⟨_, by omega, by omega, rfl, rfl⟩
      · have l3 : 1048576 < s.size := by omega
        clear l1
        go_wp2_with fail
        go_ret
        exact ⟨_, by omega, by omega, rfl, rfl⟩
    · have e : k = n := by omega
      subst e
      go_wp2_with fail
      go_ret
      exact ⟨_, by omega, by omega, rfl, rfl⟩

set_option maxRecDepth 100000 in
theorem pfail_big (a b : Option Addr) (n p c d : Nat) (w : World) (hn : n ≤ 9223372036854775807) (hp : p ≤ 9223372036854775807) (h : 65536 < n ∨ 65536 < p) :
    Calls Try.prog 10 #[.slice a n c, .slice b p d] w fun e w' => e = .returned (.bool true) ∧ w = w' := by
  by_cases c1 : 65536 < n
  · clear h
    go_enter Try.func10, Try.ntmps10
    go_wp2_with fail
    go_ret
    exact ⟨rfl, rfl⟩
  · have c2 : 65536 < p := by omega
    clear h
    go_enter Try.func10, Try.ntmps10
    go_wp2_with fail
    go_ret
    exact ⟨rfl, rfl⟩
set_option maxRecDepth 100000 in
set_option maxHeartbeats 1000000 in
theorem pfail_some (a b : Option Addr) (n p c d : Nat) (zs ys : List ByteArray) (w : World) (h : RowV w a n (fun i => .string (sAt zs i))) (h2 : RowV w b p (fun i => .string (sAt ys i))) (hl : ∀ i, (sAt zs i).size ≤ 9223372036854775807) (hl2 : ∀ i, (sAt ys i).size ≤ 9223372036854775807) (hn : n ≤ 65536) (hp : p ≤ 65536) :
    Calls Try.prog 10 #[.slice a n c, .slice b p d] w (SomeBool w) := by
  have H := Lib.hid h
  have H2 := Lib.hid h2
  have L := Lib.hid hl
  have L2 := Lib.hid hl2
  clear h h2 hl hl2
  go_enter Try.func10, Try.ntmps10
  go_wp2_with fail
  refine (pbytes _ _ _ zs w H.out L.out hn).mono ?_
  rintro e w' ⟨m, hm0, hm1, rfl, rfl⟩
  go_wp2_with fail
  refine (pbytes _ _ _ ys w H2.out L2.out hp).mono ?_
  rintro e w' ⟨m2, hm2, hm3, rfl, rfl⟩
  go_wp2_with fail
  go_ret
  exact ⟨_, rfl, rfl⟩
end Go.Proofs.Ytcbbnkccfbgahaa
