/- Proved here: the walk of the law FnUsingContextsAreConsecutive, for every input. -/
import Derived.Test.YtgghakmfcodojaaDoorUCC
import Derived.WalkKit
import Derived.WalkSpells
import Derived.WalkLawsBesides
import Derived.Lib.Hide
import Derived.Lib.SliceRun
import Derived.Deep.RegionWith
import Derived.OwnWalk
import Derived.Laws.OwnMore
namespace Go.Proofs.YtgghakmfcodojaaDoor.fnUsingContextsAreConsecutive
open Go.RowKit
set_option linter.unusedSimpArgs false
set_option linter.unusedVariables false

theorem PS.below {w w' : World} {B b : Nat} {src : Int} {ts : Bool} {n : Nat} {xs : List Value} (h : PS w B b src ts n xs) (hb : Below w.heap.size w w') : PS w' B b src ts n xs := by
  have lb : b < w.heap.size := by obtain ⟨_, _, h66, _⟩ := h; exact World.block_lt_of_cell? _ _ h66
  exact PS.of_blocks h (hb.block b lb) (fun k cs hk => (hb.block k (Array.getElem?_eq_some_iff.1 hk).1).trans hk)
def Glob (w : World) : Prop := w.cell? ⟨0, 0, none⟩ = some (.int .u32 4294967295) ∧ w.cell? ⟨0, 1, none⟩ = some (.int .u32 4294967295)
theorem Glob.below {B : Nat} {w w' : World} (h : Glob w) (hb : Below B w w') (hB : 0 < B) : Glob w' := ⟨(hb.cell (p := ⟨0, 0, none⟩) hB).trans h.1, (hb.cell (p := ⟨0, 1, none⟩) hB).trans h.2⟩
def Named (n j : Nat) (xs : List Value) : Prop := ∀ t, t < j → xs[(n + t) * 10 + 1]? = some (.string stackN)
theorem Named.snoc {n j : Nat} {xs : List Value} (h : Named n j xs) (hl : xs.length = (n + j) * 10) : Named n (j + 1) (xs ++ symOf stackN 27) := by
  intro t ht
  by_cases e : t = j
  · subst e
    rw [List.getElem?_append_right (by omega), hl, show (n + t) * 10 + 1 - (n + t) * 10 = 1 by omega]
    rfl
  · rw [List.getElem?_append_left (by omega)]
    exact h t (by omega)
def R1 (B b n k : Nat) (w : World) (i : Value) (wr : World) : Prop :=
  ∃ (j : Nat) (xs : List Value), j ≤ k ∧ i = .int .i64 j ∧ Hid (PS wr B b 7 false (n + j) xs) ∧ Hid (Named n j xs) ∧ Hid (Glob wr) ∧ Hid (Below w.heap.size w wr) ∧ B ≤ wr.heap.size
def R2 (k : Nat) (w1 : World) (i : Value) (wr : World) : Prop := ∃ j : Nat, j ≤ k ∧ i = .int .i64 j ∧ Hid (Below w1.heap.size w1 wr)
theorem PS.len {w : World} {B b : Nat} {src : Int} {ts : Bool} {n : Nat} {xs : List Value} (h : PS w B b src ts n xs) : xs.length = n * 10 := by
  obtain ⟨_, _, _, _, _, _, hown, _⟩ := h
  exact hown.1
set_option maxRecDepth 100000 in
set_option maxHeartbeats 8000000 in
theorem main (n k : Nat) (w : World) (hn : n ≤ 65536) (hk : k ≤ 4096) (hg : Glob w) :
    Calls Tryd.prog 4 #[.int .i64 (n : Int), .int .i64 (k : Int)] w fun e w' => e = .returned (.bool true) ∧ Below w.heap.size w w' := by
  have l0 : 0 < w.heap.size := World.block_lt_of_cell? _ _ hg.1
  have HG := Lib.hid hg
  clear hg
  go_enter Tryd.func4, Tryd.ntmps4
  go_wp2_with fail
  refine (newP n _ _ hn).mono ?_
  rintro e w1 ⟨b, xs, rfl, hbB, hp, hbl⟩
  have hz := hbl.size
  simp at hz hbB
  obtain ⟨B, hB⟩ : ∃ B, B = w.heap.size + 1 := ⟨_, rfl⟩
  have HP := Lib.hid (show PS w1 B b 7 false n xs from by rw [hB]; simpa using hp)
  have hBb : B ≤ b := by omega
  have hB0 : 0 < B := by omega
  have hBw : w.heap.size ≤ B := by omega
  have BW := Lib.hid (show Below w.heap.size w w1 from ((by repeat (first | with_reducible exact Below.refl _ _ | (with_reducible refine Below.drew ?_) | (with_reducible refine Below.alloc ?_ (by simp; try omega) _) | (with_reducible refine Below.setCell ?_ (by simp; try omega) _))) : Below w.heap.size w _).trans (hbl.mono (by simp)))
  have GW := Lib.hid (Glob.below HG.out BW.out l0)
  have hz1 : B ≤ w1.heap.size := by omega
  clear hp hbl hbB hz hB HG
  go_wp2_with fail
  go_loopw [7] (fun i wr => R1 B b n k w i wr) (fun i _ => k - (intOf i).toNat)
  case atStart => exact ⟨0, xs, by omega, rfl, HP, Lib.hid (fun t ht => absurd ht (by omega)), GW, BW, hz1⟩
  case round =>
    obtain ⟨j, ys, hj, rfl, HPj, HNj, HGj, HBj, hzj⟩ := hrel
    by_cases hlt : j < k
    · have e1 : decide ((j : Int) < (k : Int)) = true := by simp; exact hlt
      have e2 : decide (j < k) = true := by simpa using hlt
      go_wp2_with fail
      refine (znc B b 7 (n + j) ys wr hB0 hBb (by omega) hzj HGj.out.1 HGj.out.2 HPj.out).mono ?_
      rintro e w2 ⟨rfl, hp2, hk2, hb2⟩
      have HP2 := Lib.hid hp2
      have HB2 := Lib.hid (show Below w.heap.size w w2 from HBj.out.trans (hb2.mono hBw))
      have HG2 := Lib.hid (Glob.below HGj.out hb2 hB0)
      have hz2 : B ≤ w2.heap.size := Nat.le_trans hzj hb2.size
      have HN2 := Lib.hid (Named.snoc HNj.out (PS.len HPj.out))
      clear hp2 hk2 hb2 HPj HBj HGj HNj
      go_wp2_with fail
      refine (sref w2.heap.size (n + j) 7 _ (by simp [go_sem]) (by simp [go_sem])).mono ?_
      rintro e w3 ⟨rfl, hb3⟩
      have H23 : Below w2.heap.size w2 w3 := ((by repeat (first | with_reducible exact Below.refl _ _ | (with_reducible refine Below.drew ?_) | (with_reducible refine Below.alloc ?_ (by simp; try omega) _) | (with_reducible refine Below.setCell ?_ (by simp; try omega) _))) : Below w2.heap.size w2 _).trans (hb3.mono (by simp))
      have HP3 := Lib.hid (PS.below HP2.out H23)
      have HB3 := Lib.hid (bel2 HB2.out H23)
      have HG3 := Lib.hid (Glob.below HG2.out H23 (by omega))
      have hz3 : B ≤ w3.heap.size := Nat.le_trans hz2 H23.size
      have e3 : (((n + j : Nat) : Int) != (n : Int) + (j : Int)) = false := by simp
      have e4 : (((n + j : Nat) : Int) == (n : Int) + (j : Int)) = true := by simp
      clear hb3 H23 HP2 HB2 HG2
      go_wp2_with fail
      go_roundw
      case rel => exact ⟨j + 1, _, by omega, by go_num, Lib.hid (PS.alloc HP3.out _), HN2, Lib.hid (Glob.below HG3.out ((Below.refl _ _).alloc (Nat.le_refl _) _) (by omega)), Lib.hid (HB3.out.alloc HB3.out.size _), by simp; omega⟩
      case measure => simp [intOf]; omega
    · have e0 : j = k := by omega
      subst e0
      have e2 : decide (j < j) = false := by simp
      go_wp2_with fail
      refine (scount B b 7 false (n + j) ys wr HPj.out).mono ?_
      rintro e w' ⟨rfl, rfl⟩
      have e3 : (((n + j : Nat) : Int) != (n : Int) + (j : Int)) = false := by simp
      go_wp2_with fail
      clear e3
      obtain ⟨W0, hW0⟩ : ∃ W, W = wr := ⟨_, rfl⟩
      subst hW0
      go_loopw [10] (fun i w2 => R2 j W0 i w2) (fun i _ => j - (intOf i).toNat)
      case atStart => exact ⟨0, by omega, rfl, Lib.hid (Below.refl _ _)⟩
      case round =>
        obtain ⟨t, ht, rfl, HBt⟩ := hrel
        by_cases hlt2 : t < j
        · have e1 : decide (t < j) = true := by simpa using hlt2
          have HC := Lib.hid (show ∀ W, Below W0.heap.size W0 W → Calls Tryd.prog 16 #[.pointer (some ⟨b, 0, none⟩), .agg #[.int .u32 7, .int .u32 ((n : Int) + (t : Int))]] W (fun e w' => e = .returned (.string ⟨#[95, 115, 116, 97, 99, 107]⟩) ∧ Below W.heap.size W w') from fun W hW => by
            have h := sname B b 7 false (n + j) (n + t) ys stackN W (PS.below HPj.out hW) (by omega) (by omega) (HNj.out t hlt2)
            rw [Int.natCast_add] at h
            exact h)
          go_wp2_with fail
          refine (HC.out _ HBt.out).mono ?_
          rintro e w3 ⟨rfl, hb3⟩
          have HB3 := Lib.hid (bel2 HBt.out hb3)
          clear hb3 HBt HC
          go_wp2_with fail
          go_roundw
          case rel => exact ⟨t + 1, by omega, by go_num, HB3⟩
          case measure => simp [intOf]; omega
        · have e0 : t = j := by omega
          subst e0
          have e2 : decide (t < t) = false := by simp
          go_wp2_with fail
          go_ret
          exact ⟨rfl, bel2 HBj.out HBt.out⟩
set_option maxRecDepth 100000 in
theorem walk (a0 : Int) (a1 : Int) (w : World) (w0 : (Lit.int .i64 a0).wf = true) (w1 : (Lit.int .i64 a1).wf = true) (hg0 : w.cell? ⟨0, 0, none⟩ = some (.int .u32 4294967295)) (hg1 : w.cell? ⟨0, 1, none⟩ = some (.int .u32 4294967295)) :
    Calls Tryd.prog 4 #[.int .i64 a0, .int .i64 a1] w fun e w' => e = .returned (.bool true) ∧ Below w.heap.size w w' := by
  by_cases c1 : a0 < 0
  · go_enter Tryd.func4, Tryd.ntmps4
    go_wp2_with fail
    go_ret
    exact ⟨rfl, Below.refl _ _⟩
  · by_cases c2 : 65536 < a0
    · go_enter Tryd.func4, Tryd.ntmps4
      go_wp2_with fail
      go_ret
      exact ⟨rfl, Below.refl _ _⟩
    · by_cases c3 : a1 < 0
      · go_enter Tryd.func4, Tryd.ntmps4
        go_wp2_with fail
        go_ret
        exact ⟨rfl, Below.refl _ _⟩
      · by_cases c4 : 4096 < a1
        · go_enter Tryd.func4, Tryd.ntmps4
          go_wp2_with fail
          go_ret
          exact ⟨rfl, Below.refl _ _⟩
        · obtain ⟨n, rfl⟩ : ∃ n : Nat, a0 = n := ⟨a0.toNat, by omega⟩
          obtain ⟨k, rfl⟩ : ∃ k : Nat, a1 = k := ⟨a1.toNat, by omega⟩
          exact main n k w (by omega) (by omega) ⟨hg0, hg1⟩
end Go.Proofs.YtgghakmfcodojaaDoor.fnUsingContextsAreConsecutive
