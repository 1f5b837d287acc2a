/- Proved here: the walk of the law FnIsOptionalChainOutermostDecides, for every input. -/
import Derived.Test.YtaipmmfkideobaaClone
import Derived.WalkKit
import Derived.WalkSpells
import Derived.WalkLawsBesides
import Derived.Lib.Hide
import Derived.Lib.SliceRun
import Derived.Deep.RegionWith
namespace Go.Proofs.Ytaipmmfkideobaa.fnIsOptionalChainOutermostDecides
open Go.RowKit
set_option linter.unusedSimpArgs false
set_option linter.unusedVariables false

set_option maxRecDepth 100000 in
theorem bytes_any (a : Option Addr) (len cap : Nat) (x y : Int) (w : World) (h : len ≤ 1048576) :
    Calls Try.prog 27 #[.slice a len cap, .int .u8 x, .int .u8 y] w fun e w' => e = .returned (.bool true) ∧ w = w' := by
  go_enter Try.func27, Try.ntmps27
  go_wp2_with fail
  go_ret
  exact ⟨rfl, rfl⟩
set_option maxRecDepth 100000 in
theorem bytes_no (a : Option Addr) (len cap : Nat) (x y : Int) (w : World) (h : 1048576 < len) :
    Calls Try.prog 27 #[.slice a len cap, .int .u8 x, .int .u8 y] w fun e w' => e = .returned (.bool false) ∧ w = w' := by
  go_enter Try.func27, Try.ntmps27
  go_wp2_with fail
  go_ret
  exact ⟨rfl, rfl⟩
set_option maxRecDepth 100000 in
set_option maxHeartbeats 1000000 in
theorem ident_any (w : World) : Calls Try.prog 29 #[] w fun e w' => e = .returned (.agg #[.iface 134 (.pointer (some ⟨w.heap.size + 1, 0, none⟩)), .int .i32 0]) ∧ (w.alloc (.cells #[.iface 134 (.pointer (some ⟨w.heap.size + 1, 0, none⟩)), .int .i32 0] 32)).alloc (.cells #[.int .u32 0, .int .u32 0, .bool false, .bool false, .bool false] 136) = w' := by
  go_enter Try.func29, Try.ntmps29
  go_wp2_with fail
  exact bodyPost_ret (v := .agg #[.iface 134 (.pointer (some ⟨w.heap.size + 1, 0, none⟩)), .int .i32 0]) (by simp [results, Try.results29, go_sem]) rfl ⟨rfl, rfl⟩

set_option maxRecDepth 100000 in
set_option maxHeartbeats 400000 in
theorem chain_dot (b : Nat) (c l : Int) (w : World) (hc : w.cell? ⟨b, 4, none⟩ = some (.int .u8 c)) :
    Calls Try.prog 30 #[.agg #[.iface 58 (.pointer (some ⟨b, 0, none⟩)), .int .i32 l]] w fun e w' => e = .returned (.bool (c != 0)) ∧ Below w.heap.size w w' := by
  have hlt : b < w.heap.size := World.block_lt_of_cell? _ _ hc
  go_enter Try.func30, Try.ntmps30
  go_wp2_with fail
  go_ret
  exact ⟨rfl, (Below.refl _ _).alloc (Nat.le_refl _) _⟩
set_option maxRecDepth 100000 in
set_option maxHeartbeats 400000 in
theorem prop_dot (v : Value) (l : Int) (w : World) :
    Calls Try.prog 31 #[.agg #[.iface 58 v, .int .i32 l]] w fun e w' => e = .returned (.bool true) ∧ Below w.heap.size w w' := by
  go_enter Try.func31, Try.ntmps31
  go_wp2_with fail
  go_ret
  exact ⟨rfl, (Below.refl _ _).alloc (Nat.le_refl _) _⟩

set_option maxRecDepth 100000 in
set_option maxHeartbeats 400000 in
theorem chain_index (b : Nat) (c l : Int) (w : World) (hc : w.cell? ⟨b, 5, none⟩ = some (.int .u8 c)) :
    Calls Try.prog 30 #[.agg #[.iface 61 (.pointer (some ⟨b, 0, none⟩)), .int .i32 l]] w fun e w' => e = .returned (.bool (c != 0)) ∧ Below w.heap.size w w' := by
  have hlt : b < w.heap.size := World.block_lt_of_cell? _ _ hc
  go_enter Try.func30, Try.ntmps30
  go_wp2_with fail
  go_ret
  exact ⟨rfl, (Below.refl _ _).alloc (Nat.le_refl _) _⟩
set_option maxRecDepth 100000 in
set_option maxHeartbeats 400000 in
theorem prop_index (v : Value) (l : Int) (w : World) :
    Calls Try.prog 31 #[.agg #[.iface 61 v, .int .i32 l]] w fun e w' => e = .returned (.bool true) ∧ Below w.heap.size w w' := by
  go_enter Try.func31, Try.ntmps31
  go_wp2_with fail
  go_ret
  exact ⟨rfl, (Below.refl _ _).alloc (Nat.le_refl _) _⟩

set_option maxRecDepth 100000 in
set_option maxHeartbeats 400000 in
theorem chain_call (b : Nat) (c l : Int) (w : World) (hc : w.cell? ⟨b, 4, none⟩ = some (.int .u8 c)) :
    Calls Try.prog 30 #[.agg #[.iface 64 (.pointer (some ⟨b, 0, none⟩)), .int .i32 l]] w fun e w' => e = .returned (.bool (c != 0)) ∧ Below w.heap.size w w' := by
  have hlt : b < w.heap.size := World.block_lt_of_cell? _ _ hc
  go_enter Try.func30, Try.ntmps30
  go_wp2_with fail
  go_ret
  exact ⟨rfl, (Below.refl _ _).alloc (Nat.le_refl _) _⟩
set_option maxRecDepth 100000 in
set_option maxHeartbeats 400000 in
theorem prop_call (v : Value) (l : Int) (w : World) :
    Calls Try.prog 31 #[.agg #[.iface 64 v, .int .i32 l]] w fun e w' => e = .returned (.bool false) ∧ Below w.heap.size w w' := by
  go_enter Try.func31, Try.ntmps31
  go_wp2_with fail
  go_ret
  exact ⟨rfl, (Below.refl _ _).alloc (Nat.le_refl _) _⟩

set_option maxRecDepth 100000 in
set_option maxHeartbeats 400000 in
theorem chain_ann (v : Value) (l : Int) (w : World) :
    Calls Try.prog 30 #[.agg #[.iface 69 v, .int .i32 l]] w fun e w' => e = .returned (.bool false) ∧ Below w.heap.size w w' := by
  go_enter Try.func30, Try.ntmps30
  go_wp2_with fail
  go_ret
  exact ⟨rfl, (Below.refl _ _).alloc (Nat.le_refl _) _⟩
set_option maxRecDepth 100000 in
set_option maxHeartbeats 400000 in
theorem prop_ann (v : Value) (l : Int) (w : World) :
    Calls Try.prog 31 #[.agg #[.iface 69 v, .int .i32 l]] w fun e w' => e = .returned (.bool false) ∧ Below w.heap.size w w' := by
  go_enter Try.func31, Try.ntmps31
  go_wp2_with fail
  go_ret
  exact ⟨rfl, (Below.refl _ _).alloc (Nat.le_refl _) _⟩

/-- The loop's relation: cur's variable lies at block C, below which nothing has turned. -/
def Rel (C len : Nat) (w1 : World) (i : Value) (wr : World) : Prop :=
  ∃ (k : Nat) (t : TypeId) (v : Value), k ≤ len ∧ i = .int .i64 k ∧ wr.cell? ⟨C, 0, none⟩ = some (.iface t v) ∧ wr.cell? ⟨C, 1, none⟩ = some (.int .i32 0) ∧ wr.frozen? ⟨C, 0, none⟩ = false ∧ wr.frozen? ⟨C, 1, none⟩ = false ∧ C < wr.heap.size ∧ Below w1.heap.size w1 wr

set_option maxRecDepth 100000 in
set_option maxHeartbeats 4000000 in
theorem main (a : Option Addr) (len cap : Nat) (zs : List Int) (n : Nat) (x y : Int) (w : World) (h : IsRow .u8 w a len cap zs) (hlen : len ≤ 4096) (hx0 : 0 ≤ x) (hx1 : x ≤ 255) (hn : x % 3 = n) (hn3 : n < 3) :
    Calls Try.prog 7 #[.slice a len cap, .int .u8 x, .int .u8 y] w fun e w' => e = .returned (.bool true) ∧ Below w.heap.size w w' := by
  have H := Lib.hid h
  clear h
  have HN := Lib.hid hn
  clear hn
  go_enter Try.func7, Try.ntmps7
  go_wp2_with (first | (go_at_call 27; refine (bytes_any _ _ _ _ _ _ (by omega)).mono ?_; rintro e w' ⟨rfl, rfl⟩))
  refine (cloneA_any a len cap zs w H.out (by omega)).mono ?_
  rintro e w1 ⟨a', cap', rfl, _, hrow, hb1⟩
  have HR := Lib.hid hrow
  clear hrow
  go_wp2_with (first | (go_at_call 29; refine (ident_any _).mono ?_; rintro e w' ⟨rfl, rfl⟩))
  go_loopw [8] (fun i wr => Rel (w1.heap.size + 2) len w1 i wr) (fun i _ => len - (intOf i).toNat)
  case atStart => exact ⟨0, 134, _, by omega, rfl, by simp [go_sem]; rfl, by simp [go_sem], by simp [go_sem], by simp [go_sem], by simp, (by repeat (first | with_reducible exact Below.refl _ _ | (with_reducible refine Below.alloc ?_ (by simp; try omega) _) | (with_reducible refine Below.setCell ?_ (by simp; try omega) _)))⟩
  case round =>
    obtain ⟨k, t, v, hk, rfl, c0, c1, f0, f1, hC, hb⟩ := hrel
    by_cases hlt : k < len
    · obtain ⟨B, off, rfl, hc⟩ := (HR.out.below hb).2 (by omega)
      have hcell := hc k hlt
      have hB : B < wr.heap.size := World.block_lt_of_cell? _ _ hcell
      clear hc
      have m1 : w1.heap.size + 2 < wr.heap.size + 1 := by omega
      have m2 : w1.heap.size + 2 < wr.heap.size + 1 + 1 := by omega
      have m3 : w1.heap.size + 2 < wr.heap.size + 1 + 1 + 1 := by omega
      have h3 : (k : Int) % 3 = 0 ∨ (k : Int) % 3 = 1 ∨ (k : Int) % 3 = 2 := by omega
      rcases h3 with h3 | h3 | h3
      · go_wp2_with fail
        go_roundw
        case rel => exact ⟨k + 1, _, _, by omega, by go_num, by simp [go_sem, *]; exact ⟨rfl, rfl⟩, by simp [go_sem, *], by simp [go_sem, *], by simp [go_sem, *], by simp; omega, (by repeat (first | with_reducible exact hb | (with_reducible refine Below.drew ?_) | (with_reducible refine Below.alloc ?_ (by have := hb.size; simp; try omega) _) | (with_reducible refine Below.setCell ?_ (by simp; try omega) _)))⟩
        case measure => simp [intOf]; omega
      · go_wp2_with fail
        go_region_with (go_at_call 29; refine (ident_any _).mono ?_; rintro e w' ⟨rfl, rfl⟩)
        all_goals
          go_wp2_with fail
          go_roundw
          case rel => exact ⟨k + 1, _, _, by omega, by go_num, by simp [go_sem, *]; exact ⟨rfl, rfl⟩, by simp [go_sem, *], by simp [go_sem, *], by simp [go_sem, *], by simp; omega, (by repeat (first | with_reducible exact hb | (with_reducible refine Below.drew ?_) | (with_reducible refine Below.alloc ?_ (by have := hb.size; simp; try omega) _) | (with_reducible refine Below.setCell ?_ (by simp; try omega) _)))⟩
          case measure => simp [intOf]; omega
      · go_wp2_with fail
        go_roundw
        case rel => exact ⟨k + 1, _, _, by omega, by go_num, by simp [go_sem, *]; exact ⟨rfl, rfl⟩, by simp [go_sem, *], by simp [go_sem, *], by simp [go_sem, *], by simp; omega, (by repeat (first | with_reducible exact hb | (with_reducible refine Below.drew ?_) | (with_reducible refine Below.alloc ?_ (by have := hb.size; simp; try omega) _) | (with_reducible refine Below.setCell ?_ (by simp; try omega) _)))⟩
        case measure => simp [intOf]; omega
    · have hn := HN.out
      have BW : Below w.heap.size w wr := bel2 hb1 hb
      clear hb1 hb
      have hrange : n = 0 ∨ n = 1 ∨ n = 2 := by omega
      have m1 : w1.heap.size + 2 < wr.heap.size + 1 := by omega
      have m2 : w1.heap.size + 2 < wr.heap.size + 1 + 1 := by omega
      have m3 : w1.heap.size + 2 < wr.heap.size + 1 + 1 + 1 := by omega
      rcases hrange with rfl | rfl | rfl
      · simp only [Int.ofNat_zero, Int.cast_ofNat_Int, Int.natCast_zero, Int.natCast_one] at hn
        go_wp2_with fail
        all_goals
          go_wp2_with fail
          refine (chain_dot _ y 0 _ (by simp [go_sem, *])).mono ?_
          rintro e w2 ⟨rfl, hb2⟩
          have g0 : w2.cell? ⟨wr.heap.size, 0, none⟩ = some (.iface 58 (.pointer (some ⟨wr.heap.size + 1, 0, none⟩))) := by rw [hb2.cell (by simp; try omega)]; simp [go_sem, *]
          have g1 : w2.cell? ⟨wr.heap.size, 1, none⟩ = some (.int .i32 0) := by rw [hb2.cell (by simp; try omega)]; simp [go_sem, *]
          have B2 : Below w.heap.size w w2 := (show Below w.heap.size w _ from (by repeat (first | with_reducible exact BW | (with_reducible refine Below.drew ?_) | (with_reducible refine Below.alloc ?_ (by have := BW.size; simp; try omega) _) | (with_reducible refine Below.setCell ?_ (by have := BW.size; simp; try omega) _)))).trans (hb2.mono (by have := BW.size; simp; try omega))
          clear hb2 c0 c1 f0 f1 hC m1 m2 m3 HR H BW
          go_wp2_with fail
          refine (prop_dot _ _ _).mono ?_
          rintro e w3 ⟨rfl, hb3⟩
          have k0 := kept hb3 g0
          have k1 := kept hb3 g1
          have B3 : Below w.heap.size w w3 := bel2 B2 hb3
          have z3 : wr.heap.size < w3.heap.size := World.block_lt_of_cell? _ _ k0
          have z4 : wr.heap.size < w3.heap.size + 1 := by omega
          clear hb3 g0 g1 B2
          go_wp2_with fail
          refine (chain_ann _ _ _).mono ?_
          rintro e w4 ⟨rfl, hb4⟩
          have l0 : w4.cell? ⟨w3.heap.size + 1, 0, none⟩ = some (.iface 69 (.pointer (some ⟨w3.heap.size, 0, none⟩))) := by rw [hb4.cell (by simp; try omega)]; simp [go_sem, *]
          have l1 : w4.cell? ⟨w3.heap.size + 1, 1, none⟩ = some (.int .i32 0) := by rw [hb4.cell (by simp; try omega)]; simp [go_sem, *]
          have B4 : Below w.heap.size w w4 := (show Below w.heap.size w _ from (by repeat (first | with_reducible exact B3 | (with_reducible refine Below.drew ?_) | (with_reducible refine Below.alloc ?_ (by have := B3.size; simp; try omega) _) | (with_reducible refine Below.setCell ?_ (by have := B3.size; simp; try omega) _)))).trans (hb4.mono (by have := B3.size; simp; try omega))
          clear hb4 k0 k1 B3
          go_wp2_with fail
          refine (prop_ann _ _ _).mono ?_
          rintro e w5 ⟨rfl, hb5⟩
          go_wp2_with fail
          go_ret
          exact ⟨rfl, bel2 B4 hb5⟩
      · simp only [Int.ofNat_zero, Int.cast_ofNat_Int, Int.natCast_zero, Int.natCast_one] at hn
        go_wp2_with fail
        go_region_with (go_at_call 29; refine (ident_any _).mono ?_; rintro e w' ⟨rfl, rfl⟩)
        all_goals
          go_wp2_with fail
          refine (chain_index _ y 0 _ (by simp [go_sem, *])).mono ?_
          rintro e w2 ⟨rfl, hb2⟩
          have g0 : w2.cell? ⟨wr.heap.size, 0, none⟩ = some (.iface 61 (.pointer (some ⟨wr.heap.size + 3, 0, none⟩))) := by rw [hb2.cell (by simp; try omega)]; simp [go_sem, *]
          have g1 : w2.cell? ⟨wr.heap.size, 1, none⟩ = some (.int .i32 0) := by rw [hb2.cell (by simp; try omega)]; simp [go_sem, *]
          have B2 : Below w.heap.size w w2 := (show Below w.heap.size w _ from (by repeat (first | with_reducible exact BW | (with_reducible refine Below.drew ?_) | (with_reducible refine Below.alloc ?_ (by have := BW.size; simp; try omega) _) | (with_reducible refine Below.setCell ?_ (by have := BW.size; simp; try omega) _)))).trans (hb2.mono (by have := BW.size; simp; try omega))
          clear hb2 c0 c1 f0 f1 hC m1 m2 m3 HR H BW
          go_wp2_with fail
          refine (prop_index _ _ _).mono ?_
          rintro e w3 ⟨rfl, hb3⟩
          have k0 := kept hb3 g0
          have k1 := kept hb3 g1
          have B3 : Below w.heap.size w w3 := bel2 B2 hb3
          have z3 : wr.heap.size < w3.heap.size := World.block_lt_of_cell? _ _ k0
          have z4 : wr.heap.size < w3.heap.size + 1 := by omega
          clear hb3 g0 g1 B2
          go_wp2_with fail
          refine (chain_ann _ _ _).mono ?_
          rintro e w4 ⟨rfl, hb4⟩
          have l0 : w4.cell? ⟨w3.heap.size + 1, 0, none⟩ = some (.iface 69 (.pointer (some ⟨w3.heap.size, 0, none⟩))) := by rw [hb4.cell (by simp; try omega)]; simp [go_sem, *]
          have l1 : w4.cell? ⟨w3.heap.size + 1, 1, none⟩ = some (.int .i32 0) := by rw [hb4.cell (by simp; try omega)]; simp [go_sem, *]
          have B4 : Below w.heap.size w w4 := (show Below w.heap.size w _ from (by repeat (first | with_reducible exact B3 | (with_reducible refine Below.drew ?_) | (with_reducible refine Below.alloc ?_ (by have := B3.size; simp; try omega) _) | (with_reducible refine Below.setCell ?_ (by have := B3.size; simp; try omega) _)))).trans (hb4.mono (by have := B3.size; simp; try omega))
          clear hb4 k0 k1 B3
          go_wp2_with fail
          refine (prop_ann _ _ _).mono ?_
          rintro e w5 ⟨rfl, hb5⟩
          go_wp2_with fail
          go_ret
          exact ⟨rfl, bel2 B4 hb5⟩
      · simp only [Int.ofNat_zero, Int.cast_ofNat_Int, Int.natCast_zero, Int.natCast_one] at hn
        go_wp2_with fail
        all_goals
          go_wp2_with fail
          refine (chain_call _ y 0 _ (by simp [go_sem, *])).mono ?_
          rintro e w2 ⟨rfl, hb2⟩
          have g0 : w2.cell? ⟨wr.heap.size, 0, none⟩ = some (.iface 64 (.pointer (some ⟨wr.heap.size + 1, 0, none⟩))) := by rw [hb2.cell (by simp; try omega)]; simp [go_sem, *]
          have g1 : w2.cell? ⟨wr.heap.size, 1, none⟩ = some (.int .i32 0) := by rw [hb2.cell (by simp; try omega)]; simp [go_sem, *]
          have B2 : Below w.heap.size w w2 := (show Below w.heap.size w _ from (by repeat (first | with_reducible exact BW | (with_reducible refine Below.drew ?_) | (with_reducible refine Below.alloc ?_ (by have := BW.size; simp; try omega) _) | (with_reducible refine Below.setCell ?_ (by have := BW.size; simp; try omega) _)))).trans (hb2.mono (by have := BW.size; simp; try omega))
          clear hb2 c0 c1 f0 f1 hC m1 m2 m3 HR H BW
          go_wp2_with fail
          refine (prop_call _ _ _).mono ?_
          rintro e w3 ⟨rfl, hb3⟩
          have k0 := kept hb3 g0
          have k1 := kept hb3 g1
          have B3 : Below w.heap.size w w3 := bel2 B2 hb3
          have z3 : wr.heap.size < w3.heap.size := World.block_lt_of_cell? _ _ k0
          have z4 : wr.heap.size < w3.heap.size + 1 := by omega
          clear hb3 g0 g1 B2
          go_wp2_with fail
          refine (chain_ann _ _ _).mono ?_
          rintro e w4 ⟨rfl, hb4⟩
          have l0 : w4.cell? ⟨w3.heap.size + 1, 0, none⟩ = some (.iface 69 (.pointer (some ⟨w3.heap.size, 0, none⟩))) := by rw [hb4.cell (by simp; try omega)]; simp [go_sem, *]
          have l1 : w4.cell? ⟨w3.heap.size + 1, 1, none⟩ = some (.int .i32 0) := by rw [hb4.cell (by simp; try omega)]; simp [go_sem, *]
          have B4 : Below w.heap.size w w4 := (show Below w.heap.size w _ from (by repeat (first | with_reducible exact B3 | (with_reducible refine Below.drew ?_) | (with_reducible refine Below.alloc ?_ (by have := B3.size; simp; try omega) _) | (with_reducible refine Below.setCell ?_ (by have := B3.size; simp; try omega) _)))).trans (hb4.mono (by have := B3.size; simp; try omega))
          clear hb4 k0 k1 B3
          go_wp2_with fail
          refine (prop_ann _ _ _).mono ?_
          rintro e w5 ⟨rfl, hb5⟩
          go_wp2_with fail
          go_ret
          exact ⟨rfl, bel2 B4 hb5⟩

set_option maxRecDepth 100000 in
set_option maxHeartbeats 1000000 in
theorem walk (a0 : Option Addr) (len0 cap0 : Nat) (z0 : List Int) (a1 : Int) (a2 : Int) (w : World) (w0 : IsRow .u8 w a0 len0 cap0 z0) (w1 : (Lit.int .u8 a1).wf = true) (w2 : (Lit.int .u8 a2).wf = true) :
    Calls Try.prog 7 #[.slice a0 len0 cap0, .int .u8 a1, .int .u8 a2] w fun e w' => e = .returned (.bool true) ∧ Below w.heap.size w w' := by
  obtain ⟨h0, h1⟩ := wf_u8 w1
  clear w1 w2
  obtain ⟨n, hn⟩ := Int.eq_ofNat_of_zero_le (show 0 ≤ a1 % 3 by omega)
  by_cases c1 : 1048576 < len0
  · have W := Lib.hid w0
    clear w0 hn
    go_enter Try.func7, Try.ntmps7
    go_wp2_with (first | (go_at_call 27; refine (bytes_no _ _ _ _ _ _ c1).mono ?_; rintro e w' ⟨rfl, rfl⟩))
    go_ret
    exact ⟨rfl, Below.refl _ _⟩
  by_cases c2 : 4096 < len0
  · have W := Lib.hid w0
    clear w0 hn
    go_enter Try.func7, Try.ntmps7
    go_wp2_with (first | (go_at_call 27; refine (bytes_any _ _ _ _ _ _ (by omega)).mono ?_; rintro e w' ⟨rfl, rfl⟩))
    go_ret
    exact ⟨rfl, Below.refl _ _⟩
  exact main a0 len0 cap0 z0 n a1 a2 w w0 (by omega) h0 h1 hn (by omega)
end Go.Proofs.Ytaipmmfkideobaa.fnIsOptionalChainOutermostDecides
