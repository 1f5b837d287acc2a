/- Proved here: zzItoa, zzSymbols, the new parser. Conditions as stated. -/
import Derived.Test.YthgcchgpplblbaaDoorUXB
import Derived.WalkKit
import Derived.WalkSpells
import Derived.WalkLawsBesides
import Derived.Lib.Hide
import Derived.Lib.SliceRun
import Derived.Deep.RegionWith
import Derived.OwnWalk
import Derived.Laws.OwnMore
import Derived.BigRegion
import Derived.Carry
import Derived.IntWalk
import Derived.Laws.BytesString
namespace Go.Proofs.YthgcchgpplblbaaDoor
open Go.RowKit
set_option linter.unusedSimpArgs false
set_option linter.unusedVariables false

namespace UX
def DG (j : Nat) (n : Int) : Prop := 0 ≤ n ∧ ((j = 0 ∧ n ≤ 9999) ∨ (j = 1 ∧ n ≤ 999) ∨ (j = 2 ∧ n ≤ 99) ∨ (j = 3 ∧ n ≤ 9) ∨ (j = 4 ∧ n = 0))
def ITrel (w : World) (a s4 : Value) (wr : World) : Prop := ∃ (j : Nat) (n : Int) (pos : Nat) (cs : Array Value) (xs : List Int), a = .int .i64 n ∧ s4 = .int .i64 pos ∧ pos + j = 24 ∧ DG j n ∧ Hid (At wr w.heap.size 185 cs ∧ cs = (xs.map (Value.int .u8)).toArray ∧ xs.length = 24 ∧ Below w.heap.size w wr)
theorem dgStep {j : Nat} {m : Int} (h : DG j m) (hm : 0 < m) : DG (j + 1) (m / 10) := by
  unfold DG at *
  omega
theorem rowConv (w : World) (b pos : Nat) (xs : List Int) (cs : Array Value) (h : At w b 185 cs) (hc : cs = (xs.map (Value.int .u8)).toArray) (hx : xs.length = 24) (k c : Nat) (hk : pos + k ≤ 24) :
    ∃ s, (convert 23 9 (.slice (some ⟨b, pos, none⟩) k c)).run Tryd.prog w = .ok (.string s) w := by
  rw [run_convert_bytes_string w 23 9 5 _ k c Tryd.underlying23 Tryd.underlying5 Tryd.underlying9]
  refine ⟨_, run_bytesToString w ⟨b, pos, none⟩ k c ((xs.drop pos).take k) ?_⟩
  have := run_loadCells_list (P := Tryd.prog) w ⟨b, pos, none⟩ (((xs.drop pos).take k).map (Value.int .u8)) (fun j v hj => by
    rw [add_none, h.cell, hc]
    simp only [List.getElem?_map, List.getElem?_take, List.getElem?_drop] at hj
    split at hj
    · simpa using hj
    · cases hj)
  rw [show (((xs.drop pos).take k).map (Value.int .u8)).length = k by simp; omega] at this
  exact this
set_option maxRecDepth 100000 in
set_option maxHeartbeats 4000000 in
theorem itoa (n : Nat) (hn : n ≤ 9999) (w : World) : Calls Tryd.prog 13 #[.int .i64 n] w fun e w' => (∃ s, e = .returned (.string s)) ∧ Below w.heap.size w w' := by
  have hn0 : (0 : Int) ≤ (n : Int) := Int.natCast_nonneg _
  have hn9 : (n : Int) ≤ 9999 := by omega
  go_enter Tryd.func13, Tryd.ntmps13
  by_cases hz : (n : Int) ≤ 0
  · go_wp2_with fail
    go_ret
    exact ⟨⟨_, rfl⟩, Below.refl _ _⟩
  · go_wp2_with fail
    go_loopw [0, 4] (fun a s4 wr => ITrel w a s4 wr) (fun a _ _ => (intOf a).toNat)
    case atStart => exact ⟨0, n, 24, _, List.replicate 24 0, rfl, rfl, by simp, ⟨hn0, .inl ⟨rfl, hn9⟩⟩, Lib.hid ⟨At.new _ _ _, by rfl, by simp, (Below.refl _ _).alloc (Nat.le_refl _) _⟩⟩
    case round =>
      obtain ⟨j, m, pos, cs, xs, rfl, rfl, hp, hd, H⟩ := hrel
      have HP := Lib.hid hp
      by_cases hm : 0 < m
      · have HD := Lib.hid hd
        have hj : j ≤ 3 := by unfold DG at hd; omega
        obtain ⟨q, hq⟩ : ∃ q : Nat, q = pos - 1 := ⟨_, rfl⟩
        have l1 : Value.int .i64 (wrap64 ((pos : Int) - 1)) = .int .i64 (q : Int) := by rw [show (pos : Int) - 1 = (q : Int) by omega, IntWalk.wrap64_in _ (by omega)]
        have hq0 : (0 : Int) ≤ (q : Int) := Int.natCast_nonneg _
        have hq1 : (q : Int) < 24 := by omega
        have hq2 : q < 24 := by omega
        have HQ := Lib.hid (show q + 1 = pos ∧ 1 ≤ pos from by omega)
        have c0 : wr.cell? ⟨w.heap.size, q, none⟩ = some (.int .u8 (xs.getD q 0)) := by
          have hx := H.out.2.2.1
          rw [H.out.1.cell, H.out.2.1]
          simp [List.getD, List.getElem?_eq_getElem (show q < xs.length by omega)]
        have f0 := H.out.1.frozen q
        have lw := H.out.1.lt
        clear hd hq hp
        go_wp2_with fail
        go_roundw
        case rel =>
          have l2 : wrap64 (m.tdiv 10) = m / 10 := by
            have := HD.out
            unfold DG at this
            rw [Int.tdiv_eq_ediv_of_nonneg (by omega)]
            exact IntWalk.wrap64_in _ (by omega)
          rw [l2, l1]
          refine ⟨j + 1, m / 10, q, _, xs.set q (48 + m % 10), rfl, rfl, by have := HP.out; have := HQ.out; omega, dgStep HD.out hm, Lib.hid ⟨H.out.1.set q _, ?_, by simp [H.out.2.2.1], H.out.2.2.2.setCell (by simp) _⟩⟩
          rw [H.out.2.1]
          simp [List.map_set]
        case measure =>
          have l2 : wrap64 (m.tdiv 10) = m / 10 := by
            have := HD.out
            unfold DG at this
            rw [Int.tdiv_eq_ediv_of_nonneg (by omega)]
            exact IntWalk.wrap64_in _ (by omega)
          rw [l2]
          simp [intOf]
          omega
      · have lw := H.out.1.lt
        have hp0 : (0 : Int) ≤ (pos : Int) := Int.natCast_nonneg _
        have hp1 : (pos : Int) ≤ 24 := by omega
        have hp2 : pos ≤ 24 := by omega
        by_cases h24 : pos = 24
        · subst h24
          obtain ⟨s, hs⟩ := rowConv wr w.heap.size 0 xs cs H.out.1 H.out.2.1 H.out.2.2.1 0 0 (by omega)
          clear hp
          go_wp2_with fail
          go_ret
          exact ⟨⟨_, rfl⟩, H.out.2.2.2⟩
        · have hne : ¬ (24 : Nat) = pos := fun e => h24 e.symm
          obtain ⟨k, hk⟩ : ∃ k, k = 24 - pos := ⟨_, rfl⟩
          obtain ⟨s, hs⟩ := rowConv wr w.heap.size pos xs cs H.out.1 H.out.2.1 H.out.2.2.1 (24 - pos) (24 - pos) (by omega)
          clear hp
          go_wp2_with fail
          go_ret
          exact ⟨⟨_, rfl⟩, H.out.2.2.2⟩
end UX
end Go.Proofs.YthgcchgpplblbaaDoor
