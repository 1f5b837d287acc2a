/- Proved here: what exprHasObjectRest answers at each kind of node, from the answers at the parts. Conditions: the cells, as stated. -/
import Derived.Test.YtjcblmbndkacgaaBOA
import Derived.WalkKit
import Derived.WalkSpells
import Derived.WalkLawsBesides
import Derived.Lib.Hide
import Derived.Lib.SliceRun
import Derived.Deep.RegionWith
import Derived.OwnWalk
import Derived.Laws.OwnMore
namespace Go.Proofs.Ytjcblmbndkacgaa
open Go.RowKit
set_option linter.unusedSimpArgs false
set_option linter.unusedVariables false

/-- In w and in whatever keeps its blocks from B on, the answer at the expression's data d is t. -/
def EH (B : Nat) (w : World) (d : Value) (t : Bool) : Prop := ∀ W, Ex B w W → Calls Try.prog 30 #[.agg #[d, .int .i32 0]] W (QB t W)
theorem EH.ex {B : Nat} {w w' : World} {d : Value} {t : Bool} (h : EH B w d t) (he : Ex B w w') : EH B w' d t := fun W hW => h W (he.trans hW)
theorem EH.low {B B' : Nat} {w : World} {d : Value} {t : Bool} (h : EH B w d t) (hb : B' ≤ B) : EH B' w d t := fun W hW => h W (hW.up hb)
def IsE (v : Value) : Prop := v = .nilIface ∨ IsD v
/-- The cells xs are j expressions, the answer at the q-th is t q. -/
def IeA (B : Nat) (w : World) (xs : List Value) (j : Nat) (t : Nat → Bool) : Prop := xs.length = j * 2 ∧ ∀ q, q < j → ∃ d, IsE d ∧ EH B w d (t q) ∧ xs[q * 2]? = some (d) ∧ xs[q * 2 + 1]? = some (.int .i32 0)
/-- The cells xs are j properties; the kind of the q-th is s q, the answer at its value is t q. -/
def IeO (B : Nat) (w : World) (xs : List Value) (j : Nat) (s : Nat → Int) (t : Nat → Bool) : Prop := xs.length = j * 12 ∧ ∀ q, q < j → ∃ d, IsE d ∧ EH B w d (t q) ∧ xs[q * 12]? = some (.pointer none) ∧ xs[q * 12 + 1]? = some (.nilIface) ∧ xs[q * 12 + 2]? = some (.int .i32 0) ∧ xs[q * 12 + 3]? = some (d) ∧ xs[q * 12 + 4]? = some (.int .i32 0) ∧ xs[q * 12 + 5]? = some (.nilIface) ∧ xs[q * 12 + 6]? = some (.int .i32 0) ∧ xs[q * 12 + 7]? = some (.slice none 0 0) ∧ xs[q * 12 + 8]? = some (.int .i32 0) ∧ xs[q * 12 + 9]? = some (.int .i32 0) ∧ xs[q * 12 + 10]? = some (.int .u8 (s q)) ∧ xs[q * 12 + 11]? = some (.int .u8 0)
set_option maxRecDepth 100000 in
set_option maxHeartbeats 4000000 in
theorem ehNil (B : Nat) (w : World) : EH B w .nilIface false := by
  intro W hW
  go_enter Try.func30, Try.ntmps30
  go_wp2_with fail
  go_ret
  exact ⟨rfl, (by repeat (first | with_reducible exact Below.refl _ _ | (with_reducible refine Below.drew ?_) | (with_reducible refine Below.alloc ?_ (by simp; try omega) _) | (with_reducible refine Below.setCell ?_ (by simp; try omega) _)))⟩
set_option maxRecDepth 100000 in
set_option maxHeartbeats 4000000 in
theorem ehId (B : Nat) (b : Nat) (w : World) : EH B w (.iface 47 (.pointer (some ⟨b, 0, none⟩))) false := by
  intro W hW
  go_enter Try.func30, Try.ntmps30
  go_wp2_with fail
  go_ret
  exact ⟨rfl, (by repeat (first | with_reducible exact Below.refl _ _ | (with_reducible refine Below.drew ?_) | (with_reducible refine Below.alloc ?_ (by simp; try omega) _) | (with_reducible refine Below.setCell ?_ (by simp; try omega) _)))⟩
set_option maxRecDepth 100000 in
set_option maxHeartbeats 4000000 in
theorem ehArr (B b R n c : Nat) (xs : List Value) (t : Nat → Bool) (B2 : Nat) (w : World) (hb : B ≤ b) (h0 : w.cell? ⟨b, 0, none⟩ = some (.slice (some ⟨R, 0, none⟩) n c)) (hR : B ≤ R) (ho : w.ownsRow B2 32 2 (.slice (some ⟨R, 0, none⟩) n c) n xs) (hi : IeA B w xs n t) (hn : n ≤ 1048576) :
    EH B w (.iface 53 (.pointer (some ⟨b, 0, none⟩))) (anyB t n) := by
  intro W hW
  have e0 := hW.cell hb h0
  have HO := Lib.hid (hW.own hR ho)
  have HI := Lib.hid hi
  have HW := Lib.hid hW
  have lb : b < W.heap.size := World.block_lt_of_cell? _ _ e0
  clear h0 ho hi hW
  go_enter Try.func30, Try.ntmps30
  go_wp2_with fail
  go_loopw [35] (fun i wr => LA n t W i wr) (fun i _ => n - (intOf i).toNat)
  case atStart => exact ⟨0, Nat.zero_le _, rfl, Lib.hid (by repeat (first | with_reducible exact Below.refl _ _ | (with_reducible refine Below.drew ?_) | (with_reducible refine Below.alloc ?_ (by simp; try omega) _) | (with_reducible refine Below.setCell ?_ (by simp; try omega) _))), Lib.hid (fun j hj => absurd hj (by omega))⟩
  case round =>
    obtain ⟨k, hk, rfl, HB, HA⟩ := hrel
    by_cases hlt : k < n
    · obtain ⟨d, hd, hbh, x0, x1⟩ := HI.out.2 k hlt
      have HK := Lib.hid hbh
      clear hbh
      have c0 : wr.cell? ⟨R, k * 2, none⟩ = some (d) := kept HB.out (by rw [World.ownsRow.cellAt HO.out _ (by omega)]; exact x0)
      have c1 : wr.cell? ⟨R, k * 2 + 1, none⟩ = some (.int .i32 0) := kept HB.out (by rw [World.ownsRow.cellAt HO.out _ (by omega)]; exact x1)
      have lR : R < wr.heap.size := World.block_lt_of_cell? _ _ c0
      clear x0 x1
      rcases hd with rfl | ⟨ty, bb, rfl⟩
      all_goals
        go_wp2_with fail
        refine (HK.out _ (HW.out.trans ((Ex.of HB.out _).alloc _))).mono ?_
        rintro e w1 ⟨rfl, hb1⟩
        have HB1 := Lib.hid (bel2 (HB.out.alloc HB.out.size _) hb1)
        clear hb1 HK HB
        cases ht : t k
        · have HA1 := Lib.hid (LA.next HA.out (by simp [ht]))
          clear ht HA
          go_wp2_with fail
          go_roundw
          case rel => exact ⟨k + 1, by omega, by go_num, HB1, HA1⟩
          case measure => simp [intOf]; omega
        · have HA1 := Lib.hid (anyB_yes (t := t) hlt (by simp [ht]))
          clear ht HA
          go_wp2_with fail
          go_ret
          exact ⟨ret_bool HA1.out.symm, HB1.out⟩
    · have e : k = n := by omega
      subst e
      have HA1 := Lib.hid (anyB_no HA.out)
      clear HA
      go_wp2_with fail
      go_ret
      exact ⟨ret_bool HA1.out.symm, HB.out⟩
set_option maxRecDepth 100000 in
set_option maxHeartbeats 4000000 in
theorem ehObj (B b R n c : Nat) (xs : List Value) (s : Nat → Int) (t : Nat → Bool) (B2 : Nat) (w : World) (hb : B ≤ b) (h0 : w.cell? ⟨b, 0, none⟩ = some (.slice (some ⟨R, 0, none⟩) n c)) (hR : B ≤ R) (ho : w.ownsRow B2 62 12 (.slice (some ⟨R, 0, none⟩) n c) n xs) (hi : IeO B w xs n s t) (hn : n ≤ 1048576) :
    EH B w (.iface 56 (.pointer (some ⟨b, 0, none⟩))) (anyB (fun q => decide (s q = 5) || t q) n) := by
  intro W hW
  have e0 := hW.cell hb h0
  have HO := Lib.hid (hW.own hR ho)
  have HI := Lib.hid hi
  have HW := Lib.hid hW
  have lb : b < W.heap.size := World.block_lt_of_cell? _ _ e0
  clear h0 ho hi hW
  go_enter Try.func30, Try.ntmps30
  go_wp2_with fail
  go_loopw [50] (fun i wr => LA n (fun q => decide (s q = 5) || t q) W i wr) (fun i _ => n - (intOf i).toNat)
  case atStart => exact ⟨0, Nat.zero_le _, rfl, Lib.hid (by repeat (first | with_reducible exact Below.refl _ _ | (with_reducible refine Below.drew ?_) | (with_reducible refine Below.alloc ?_ (by simp; try omega) _) | (with_reducible refine Below.setCell ?_ (by simp; try omega) _))), Lib.hid (fun j hj => absurd hj (by omega))⟩
  case round =>
    obtain ⟨k, hk, rfl, HB, HA⟩ := hrel
    by_cases hlt : k < n
    · obtain ⟨d, hd, hbh, x0, x1, x2, x3, x4, x5, x6, x7, x8, x9, x10, x11⟩ := HI.out.2 k hlt
      have HK := Lib.hid hbh
      clear hbh
      have c0 : wr.cell? ⟨R, k * 12, none⟩ = some (.pointer none) := kept HB.out (by rw [World.ownsRow.cellAt HO.out _ (by omega)]; exact x0)
      have c1 : wr.cell? ⟨R, k * 12 + 1, none⟩ = some (.nilIface) := kept HB.out (by rw [World.ownsRow.cellAt HO.out _ (by omega)]; exact x1)
      have c2 : wr.cell? ⟨R, k * 12 + 2, none⟩ = some (.int .i32 0) := kept HB.out (by rw [World.ownsRow.cellAt HO.out _ (by omega)]; exact x2)
      have c3 : wr.cell? ⟨R, k * 12 + 3, none⟩ = some (d) := kept HB.out (by rw [World.ownsRow.cellAt HO.out _ (by omega)]; exact x3)
      have c4 : wr.cell? ⟨R, k * 12 + 4, none⟩ = some (.int .i32 0) := kept HB.out (by rw [World.ownsRow.cellAt HO.out _ (by omega)]; exact x4)
      have c5 : wr.cell? ⟨R, k * 12 + 5, none⟩ = some (.nilIface) := kept HB.out (by rw [World.ownsRow.cellAt HO.out _ (by omega)]; exact x5)
      have c6 : wr.cell? ⟨R, k * 12 + 6, none⟩ = some (.int .i32 0) := kept HB.out (by rw [World.ownsRow.cellAt HO.out _ (by omega)]; exact x6)
      have c7 : wr.cell? ⟨R, k * 12 + 7, none⟩ = some (.slice none 0 0) := kept HB.out (by rw [World.ownsRow.cellAt HO.out _ (by omega)]; exact x7)
      have c8 : wr.cell? ⟨R, k * 12 + 8, none⟩ = some (.int .i32 0) := kept HB.out (by rw [World.ownsRow.cellAt HO.out _ (by omega)]; exact x8)
      have c9 : wr.cell? ⟨R, k * 12 + 9, none⟩ = some (.int .i32 0) := kept HB.out (by rw [World.ownsRow.cellAt HO.out _ (by omega)]; exact x9)
      have c10 : wr.cell? ⟨R, k * 12 + 10, none⟩ = some (.int .u8 (s k)) := kept HB.out (by rw [World.ownsRow.cellAt HO.out _ (by omega)]; exact x10)
      have c11 : wr.cell? ⟨R, k * 12 + 11, none⟩ = some (.int .u8 0) := kept HB.out (by rw [World.ownsRow.cellAt HO.out _ (by omega)]; exact x11)
      have lR : R < wr.heap.size := World.block_lt_of_cell? _ _ c0
      clear x0 x1 x2 x3 x4 x5 x6 x7 x8 x9 x10 x11
      by_cases hs : s k = 5
      · rw [hs] at c10
        have HA1 := Lib.hid (anyB_yes (t := (fun q => decide (s q = 5) || t q)) hlt (by simp [hs]))
        clear hs HA
        rcases hd with rfl | ⟨ty, bb, rfl⟩
        all_goals
          go_wp2_with fail
          go_ret
          exact ⟨ret_bool HA1.out.symm, (HB.out.alloc HB.out.size _)⟩
      · have hs' : (s k == 5) = false := by simpa using hs
        rcases hd with rfl | ⟨ty, bb, rfl⟩
        all_goals
          go_wp2_with fail
          refine (HK.out _ (HW.out.trans ((Ex.of HB.out _).alloc _))).mono ?_
          rintro e w1 ⟨rfl, hb1⟩
          have HB1 := Lib.hid (bel2 (HB.out.alloc HB.out.size _) hb1)
          clear hb1 HK HB
          cases ht : t k
          · have HA1 := Lib.hid (LA.next HA.out (by simp [hs, ht]))
            clear ht HA hs hs'
            go_wp2_with fail
            go_roundw
            case rel => exact ⟨k + 1, by omega, by go_num, HB1, HA1⟩
            case measure => simp [intOf]; omega
          · have HA1 := Lib.hid (anyB_yes (t := (fun q => decide (s q = 5) || t q)) hlt (by simp [ht]))
            clear ht HA hs hs'
            go_wp2_with fail
            go_ret
            exact ⟨ret_bool HA1.out.symm, HB1.out⟩
    · have e : k = n := by omega
      subst e
      have HA1 := Lib.hid (anyB_no HA.out)
      clear HA
      go_wp2_with fail
      go_ret
      exact ⟨ret_bool HA1.out.symm, HB.out⟩
set_option maxRecDepth 100000 in
set_option maxHeartbeats 4000000 in
theorem ehArrNil (B b : Nat) (w : World) (hb : B ≤ b) (h0 : w.cell? ⟨b, 0, none⟩ = some (.slice none 0 0)) : EH B w (.iface 53 (.pointer (some ⟨b, 0, none⟩))) false := by
  intro W hW
  have e0 := hW.cell hb h0
  have lb : b < W.heap.size := World.block_lt_of_cell? _ _ e0
  clear h0 hW
  go_enter Try.func30, Try.ntmps30
  go_wp2_with fail
  go_loopw [35] (fun i wr => LA 0 (fun _ => false) W i wr) (fun i _ => 0)
  case atStart => exact ⟨0, Nat.zero_le _, rfl, Lib.hid (by repeat (first | with_reducible exact Below.refl _ _ | (with_reducible refine Below.drew ?_) | (with_reducible refine Below.alloc ?_ (by simp; try omega) _) | (with_reducible refine Below.setCell ?_ (by simp; try omega) _))), Lib.hid (fun j hj => absurd hj (by omega))⟩
  case round =>
    obtain ⟨k, hk, rfl, HB, HA⟩ := hrel
    obtain rfl : k = 0 := by omega
    go_wp2_with fail
    go_ret
    exact ⟨rfl, HB.out⟩
set_option maxRecDepth 100000 in
set_option maxHeartbeats 4000000 in
theorem ehObjNil (B b : Nat) (w : World) (hb : B ≤ b) (h0 : w.cell? ⟨b, 0, none⟩ = some (.slice none 0 0)) : EH B w (.iface 56 (.pointer (some ⟨b, 0, none⟩))) false := by
  intro W hW
  have e0 := hW.cell hb h0
  have lb : b < W.heap.size := World.block_lt_of_cell? _ _ e0
  clear h0 hW
  go_enter Try.func30, Try.ntmps30
  go_wp2_with fail
  go_loopw [50] (fun i wr => LA 0 (fun _ => false) W i wr) (fun i _ => 0)
  case atStart => exact ⟨0, Nat.zero_le _, rfl, Lib.hid (by repeat (first | with_reducible exact Below.refl _ _ | (with_reducible refine Below.drew ?_) | (with_reducible refine Below.alloc ?_ (by simp; try omega) _) | (with_reducible refine Below.setCell ?_ (by simp; try omega) _))), Lib.hid (fun j hj => absurd hj (by omega))⟩
  case round =>
    obtain ⟨k, hk, rfl, HB, HA⟩ := hrel
    obtain rfl : k = 0 := by omega
    go_wp2_with fail
    go_ret
    exact ⟨rfl, HB.out⟩
set_option maxRecDepth 100000 in
set_option maxHeartbeats 4000000 in
theorem ehAdd (B b : Nat) (w : World) (hb : B ≤ b) (h4 : w.cell? ⟨b, 4, none⟩ = some (.int .u8 11)) : EH B w (.iface 66 (.pointer (some ⟨b, 0, none⟩))) false := by
  intro W hW
  have e4 := hW.cell hb h4
  have lb : b < W.heap.size := World.block_lt_of_cell? _ _ e4
  clear h4 hW
  go_enter Try.func30, Try.ntmps30
  go_wp2_with fail
  go_ret
  exact ⟨rfl, (by repeat (first | with_reducible exact Below.refl _ _ | (with_reducible refine Below.drew ?_) | (with_reducible refine Below.alloc ?_ (by simp; try omega) _) | (with_reducible refine Below.setCell ?_ (by simp; try omega) _)))⟩
set_option maxRecDepth 100000 in
set_option maxHeartbeats 4000000 in
theorem ehAsg (B b : Nat) (d : Value) (t : Bool) (w : World) (hb : B ≤ b) (hd : IsE d) (h : EH B w d t) (h0 : w.cell? ⟨b, 0, none⟩ = some d) (h1 : w.cell? ⟨b, 1, none⟩ = some (.int .i32 0)) (h4 : w.cell? ⟨b, 4, none⟩ = some (.int .u8 37)) : EH B w (.iface 66 (.pointer (some ⟨b, 0, none⟩))) t := by
  intro W hW
  have e0 := hW.cell hb h0
  have e1 := hW.cell hb h1
  have e4 := hW.cell hb h4
  have lb : b < W.heap.size := World.block_lt_of_cell? _ _ e4
  have HK := Lib.hid h
  have HW := Lib.hid hW
  clear h0 h1 h4 hW h
  rcases hd with rfl | ⟨ty, bb, rfl⟩
  all_goals
    go_enter Try.func30, Try.ntmps30
    go_wp2_with fail
    refine (HK.out _ (HW.out.alloc _)).mono ?_
    rintro e w1 ⟨rfl, hb1⟩
    have HB1 := Lib.hid (bel2 ((Below.refl _ W).alloc (Nat.le_refl _) _) hb1)
    clear hb1 HK HW
    cases t
    all_goals
      go_wp2_with fail
      go_ret
      exact ⟨rfl, HB1.out⟩
end Go.Proofs.Ytjcblmbndkacgaa
