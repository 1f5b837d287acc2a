/- Proved here: the contract of tryToInlineCaseBody. Conditions: the statements' cells, as stated. -/
import Derived.Test.YtjnffbnipjkibaaTIB
import Derived.WalkKit
import Derived.WalkSpells
import Derived.WalkLawsBesides
import Derived.Lib.Hide
import Derived.Lib.SliceRun
import Derived.Deep.RegionWith
import Derived.OwnWalk
import Derived.Laws.OwnMore
import Derived.Deep.AppendLies
import Derived.Deep.RegionHeld3
import Derived.WalkMore
namespace Go.Proofs.Ytjnffbnipjkibaa
open Go.RowKit
set_option linter.unusedSimpArgs false
set_option linter.unusedVariables false

/-- k is the first place with a break or an 'if' (n: there is none). -/
def IsCut (zs : List Int) (n k : Nat) : Prop := k ≤ n ∧ (∀ q, q < k → cd zs q ≠ 11 ∧ cd zs q ≠ 12 ∧ cd zs q ≠ 13) ∧ (k < n → cd zs k = 11 ∨ cd zs k = 12 ∨ cd zs k = 13)
def Cares (zs : List Int) (k : Nat) : Prop := ∃ q, q < k ∧ (cd zs q = 9 ∨ cd zs q = 10)
/-- Statements 0 to n - 1 at block g, with the codes of zs. -/
def Rows (w : World) (g n : Nat) (zs : List Int) : Prop := ∀ q, q < n → ∃ v, St 0 w (cd zs q) v ∧ w.cell? ⟨g, q * 2, none⟩ = some v ∧ w.cell? ⟨g, q * 2 + 1, none⟩ = some (.int .i32 ((q : Int) + 1))
theorem Rows.below {w w' : World} {g n : Nat} {zs : List Int} (h : Rows w g n zs) (hb : Below w.heap.size w w') : Rows w' g n zs := fun q hq => by
  obtain ⟨v, h1, h2, h3⟩ := h q hq
  exact ⟨v, h1.ex (Ex.of hb 0), kept hb h2, kept hb h3⟩
theorem St.shape {B : Nat} {w : World} {c : Int} {v : Value} (h : St B w c v) : ∃ t b, v = .iface t (.pointer (some ⟨b, 0, none⟩)) ∧ t ≠ 55 := by
  obtain ⟨b, _, _, h⟩ := h
  rcases h with h | h | h | h | h | h | h | h | h | h | h | h | h | h
  all_goals first | exact ⟨_, b, h.2, by decide⟩ | exact ⟨_, b, h.2.1, by decide⟩
/-- What the answer is when the first cut is k. -/
def TbR (zs : List Int) (g cap n k : Nat) (o cl : Int) (e : Ending) (w' : World) : Prop :=
  (k < n ∧ cd zs k ≠ 11 ∧ e = .returned (.tuple #[.slice none 0 0, .bool false])) ∨
  ((k = n ∨ cd zs k = 11) ∧ ¬ Cares zs k ∧ e = .returned (.tuple #[.slice (some ⟨g, 0, none⟩) k cap, .bool true])) ∨
  ((k = n ∨ cd zs k = 11) ∧ Cares zs k ∧ ∃ G nb, e = .returned (.tuple #[.slice (some ⟨G, 0, none⟩) 1 1, .bool true]) ∧ w'.cell? ⟨G, 0, none⟩ = some (.iface 55 (.pointer (some ⟨nb, 0, none⟩))) ∧ w'.cell? ⟨G, 1, none⟩ = some (.int .i32 o) ∧ w'.cell? ⟨nb, 0, none⟩ = some (.slice (some ⟨g, 0, none⟩) k cap) ∧ w'.cell? ⟨nb, 1, none⟩ = some (.int .i32 cl))
def TbP (zs : List Int) (g cap n : Nat) (o cl : Int) (w : World) (e : Ending) (w' : World) : Prop := Below w.heap.size w w' ∧ ∃ k, IsCut zs n k ∧ TbR zs g cap n k o cl e w'
theorem tbp_ret {zs : List Int} {g cap n : Nat} {o cl : Int} {w : World} {e : Ending} {w' : World} (h : TbP zs g cap n o cl w e w') : ∃ ao l c b, e = .returned (.tuple #[.slice ao l c, .bool b]) := by
  obtain ⟨_, k, _, h⟩ := h
  rcases h with ⟨_, _, h⟩ | ⟨_, _, h⟩ | ⟨_, _, G, nb, h, _⟩ <;> exact ⟨_, _, _, _, h⟩
def T1 (g n cap : Nat) (zs : List Int) (W : World) (s b i : Value) (wr : World) : Prop := ∃ (j : Nat) (bb : Bool), j ≤ n ∧ s = .slice (some ⟨g, 0, none⟩) n cap ∧ b = .bool bb ∧ i = .int .i64 j ∧ Hid (bb = true ↔ Cares zs j) ∧ Hid (∀ q, q < j → cd zs q ≠ 11 ∧ cd zs q ≠ 12 ∧ cd zs q ≠ 13) ∧ Hid (Below W.heap.size W wr)
theorem cares_no {zs : List Int} {j : Nat} {bb : Bool} (h : bb = true ↔ Cares zs j) (hc : cd zs j ≠ 9 ∧ cd zs j ≠ 10) : bb = true ↔ Cares zs (j + 1) := by
  rw [h]
  constructor
  · rintro ⟨q, h1, h2⟩; exact ⟨q, by omega, h2⟩
  · rintro ⟨q, h1, h2⟩
    by_cases e : q = j
    · subst e; omega
    · exact ⟨q, by omega, h2⟩
theorem cares_yes {zs : List Int} {j : Nat} (hc : cd zs j = 9 ∨ cd zs j = 10) : true = true ↔ Cares zs (j + 1) := ⟨fun _ => ⟨j, by omega, hc⟩, fun _ => rfl⟩
theorem cut_next {zs : List Int} {j : Nat} (h : ∀ q, q < j → cd zs q ≠ 11 ∧ cd zs q ≠ 12 ∧ cd zs q ≠ 13) (hc : cd zs j ≠ 11 ∧ cd zs j ≠ 12 ∧ cd zs j ≠ 13) : ∀ q, q < j + 1 → cd zs q ≠ 11 ∧ cd zs q ≠ 12 ∧ cd zs q ≠ 13 := fun q hq => by
  by_cases e : q = j
  · subst e; exact hc
  · exact h q (by omega)

set_option maxRecDepth 100000 in
set_option maxHeartbeats 8000000 in
theorem tryBase (g n cap : Nat) (o cl : Int) (zs : List Int) (w : World) (hr : Rows w g n zs) (hn : n ≤ 65536) (hnc : n ≤ cap) : Calls Try.prog 24 #[.agg #[.int .i32 o], .slice (some ⟨g, 0, none⟩) n cap, .agg #[.int .i32 cl]] w (TbP zs g cap n o cl w) := by
  have HR := Lib.hid hr
  obtain ⟨t0, b0, hg, ht⟩ : ∃ t0 b0, (n = 1 → w.cell? ⟨g, 0, none⟩ = some (.iface t0 (.pointer (some ⟨b0, 0, none⟩)))) ∧ t0 ≠ 55 := by
    by_cases e : n = 1
    · obtain ⟨v, h1, h2, h3⟩ := hr 0 (by omega)
      obtain ⟨t, b, rfl, h4⟩ := h1.shape
      exact ⟨t, b, fun _ => by simpa using h2, h4⟩
    · exact ⟨0, 0, fun h => absurd h e, by decide⟩
  clear hr
  rcases (show (n = 1 ∨ n ≠ 1) by omega) with n1 | n1
  · have lg : g < w.heap.size := World.block_lt_of_cell? _ _ (hg n1)
    have hg := hg n1
    have e1 : ((n : Int) == 1) = true := by simp; omega
    have e2 : (n == 1) = true := by simp; omega
    have hn1 : 0 < n := by omega
    clear n1
    go_enter Try.func24, Try.ntmps24
    go_wp2_with fail
    go_step3
    go_wp2_with fail
    go_step3
    go_wp2_with fail
    clear e1 e2 hn1 hg lg ht
    obtain ⟨W0, hW0⟩ : ∃ W, W = (w.alloc (.cells #[.int .i32 o] 30)).alloc (.cells #[.int .i32 cl] 30) := ⟨_, rfl⟩
    rw [← hW0]
    have a3 : W0.cell? ⟨w.heap.size, 0, none⟩ = some (.int .i32 o) := by rw [hW0]; simp [go_sem]
    have a5 : W0.cell? ⟨w.heap.size + 1, 0, none⟩ = some (.int .i32 cl) := by rw [hW0]; simp [go_sem]
    have B0 := Lib.hid (show Below w.heap.size w W0 from by rw [hW0]; exact ((Below.refl _ _).alloc (Nat.le_refl _) _).alloc (by simp) _)
    clear hW0
    go_loopw [1, 10, 46] (fun s b i wr => T1 g n cap zs W0 s b i wr) (fun s b i _ => n - (intOf i).toNat)
    case atStart => exact ⟨0, false, by omega, rfl, rfl, rfl, Lib.hid ⟨fun h => (by cases h), fun ⟨q, h, _⟩ => absurd h (by omega)⟩, Lib.hid (fun q hq => absurd hq (by omega)), Lib.hid (Below.refl _ _)⟩
    case round =>
      obtain ⟨j, bb, hj, rfl, rfl, rfl, HF, HC, HB⟩ := hrel
      have b3 := kept HB.out a3
      have b5 := kept HB.out a5
      have l3 : w.heap.size < wr.heap.size := World.block_lt_of_cell? _ _ b3
      have l5 : w.heap.size + 1 < wr.heap.size := World.block_lt_of_cell? _ _ b5
      have BW := Lib.hid (B0.out.trans (HB.out.mono B0.out.size))
      by_cases hjn : j < n
      · obtain ⟨v, hs, c0, c1⟩ := (HR.out.below BW.out) j hjn
        obtain ⟨b, hs1, lb, hs3⟩ := hs
        clear hs1
        have lg : g < wr.heap.size := World.block_lt_of_cell? _ _ c0
        have j0 : (0 : Int) ≤ (j : Int) := Int.natCast_nonneg _
        have j1 : (j : Int) < (n : Int) := by omega
        rcases hs3 with ⟨hc, rfl⟩ | ⟨hc, rfl⟩ | ⟨hc, rfl⟩ | ⟨hc, rfl⟩ | ⟨hc, rfl⟩ | ⟨hc, rfl⟩ | ⟨hc, rfl⟩ | ⟨hc, rfl⟩ | ⟨hc, rfl, k0⟩ | ⟨hc, rfl, k0⟩ | ⟨hc, rfl, k0⟩ | ⟨hc, rfl, k0⟩ | ⟨hc, rfl, lx, k0⟩ | ⟨hc, rfl⟩
        · have HF1 := Lib.hid (cares_no HF.out (by omega))
          have HC1 := Lib.hid (cut_next HC.out (by omega))
          clear HF HC hc
          go_wp2_with fail
          exact ⟨⟨j + 1, _, by omega, rfl, rfl, by go_num, HF1, HC1, Lib.hid (HB.out.alloc HB.out.size _)⟩, by simp [intOf]; omega⟩
        · have HF1 := Lib.hid (cares_no HF.out (by omega))
          have HC1 := Lib.hid (cut_next HC.out (by omega))
          clear HF HC hc
          go_wp2_with fail
          exact ⟨⟨j + 1, _, by omega, rfl, rfl, by go_num, HF1, HC1, Lib.hid (HB.out.alloc HB.out.size _)⟩, by simp [intOf]; omega⟩
        · have HF1 := Lib.hid (cares_no HF.out (by omega))
          have HC1 := Lib.hid (cut_next HC.out (by omega))
          clear HF HC hc
          go_wp2_with fail
          exact ⟨⟨j + 1, _, by omega, rfl, rfl, by go_num, HF1, HC1, Lib.hid (HB.out.alloc HB.out.size _)⟩, by simp [intOf]; omega⟩
        · have HF1 := Lib.hid (cares_no HF.out (by omega))
          have HC1 := Lib.hid (cut_next HC.out (by omega))
          clear HF HC hc
          go_wp2_with fail
          exact ⟨⟨j + 1, _, by omega, rfl, rfl, by go_num, HF1, HC1, Lib.hid (HB.out.alloc HB.out.size _)⟩, by simp [intOf]; omega⟩
        · have HF1 := Lib.hid (cares_no HF.out (by omega))
          have HC1 := Lib.hid (cut_next HC.out (by omega))
          clear HF HC hc
          go_wp2_with fail
          exact ⟨⟨j + 1, _, by omega, rfl, rfl, by go_num, HF1, HC1, Lib.hid (HB.out.alloc HB.out.size _)⟩, by simp [intOf]; omega⟩
        · have HF1 := Lib.hid (cares_no HF.out (by omega))
          have HC1 := Lib.hid (cut_next HC.out (by omega))
          clear HF HC hc
          go_wp2_with fail
          exact ⟨⟨j + 1, _, by omega, rfl, rfl, by go_num, HF1, HC1, Lib.hid (HB.out.alloc HB.out.size _)⟩, by simp [intOf]; omega⟩
        · have HF1 := Lib.hid (cares_no HF.out (by omega))
          have HC1 := Lib.hid (cut_next HC.out (by omega))
          clear HF HC hc
          go_wp2_with fail
          exact ⟨⟨j + 1, _, by omega, rfl, rfl, by go_num, HF1, HC1, Lib.hid (HB.out.alloc HB.out.size _)⟩, by simp [intOf]; omega⟩
        · have HF1 := Lib.hid (cares_no HF.out (by omega))
          have HC1 := Lib.hid (cut_next HC.out (by omega))
          clear HF HC hc
          go_wp2_with fail
          exact ⟨⟨j + 1, _, by omega, rfl, rfl, by go_num, HF1, HC1, Lib.hid (HB.out.alloc HB.out.size _)⟩, by simp [intOf]; omega⟩
        · have HF1 := Lib.hid (cares_no HF.out (by omega))
          have HC1 := Lib.hid (cut_next HC.out (by omega))
          clear HF HC hc
          go_wp2_with fail
          exact ⟨⟨j + 1, _, by omega, rfl, rfl, by go_num, HF1, HC1, Lib.hid (HB.out.alloc HB.out.size _)⟩, by simp [intOf]; omega⟩
        · have HF1 := Lib.hid (cares_yes (zs := zs) (j := j) (by omega))
          have HC1 := Lib.hid (cut_next HC.out (by omega))
          clear HF HC hc
          go_wp2_with fail
          exact ⟨⟨j + 1, _, by omega, rfl, rfl, by go_num, HF1, HC1, Lib.hid (HB.out.alloc HB.out.size _)⟩, by simp [intOf]; omega⟩
        · have HF1 := Lib.hid (cares_yes (zs := zs) (j := j) (by omega))
          have HC1 := Lib.hid (cut_next HC.out (by omega))
          clear HF HC hc
          go_wp2_with fail
          exact ⟨⟨j + 1, _, by omega, rfl, rfl, by go_num, HF1, HC1, Lib.hid (HB.out.alloc HB.out.size _)⟩, by simp [intOf]; omega⟩
        · have HI := Lib.hid (show IsCut zs n j from ⟨by omega, HC.out, fun _ => .inl hc⟩)
          have HK := Lib.hid hc
          clear HC hc
          cases bb
          · have NC := Lib.hid (show ¬ Cares zs j from fun h => by have := HF.out.2 h; cases this)
            go_wp2_with fail
            exact bodyPost_ret (v := .tuple #[.slice (some ⟨g, 0, none⟩) j cap, .bool true]) (by simp [results, Try.results24, go_sem]) rfl ⟨(BW.out.alloc BW.out.size _), j, HI.out, .inr (.inl ⟨.inr HK.out, NC.out, rfl⟩)⟩
          · have NC := Lib.hid (show Cares zs j from HF.out.1 rfl)
            go_wp2_with fail
            exact bodyPost_ret (v := .tuple #[.slice (some ⟨wr.heap.size + 2, 0, none⟩) 1 1, .bool true]) (by simp [results, Try.results24, go_sem]) rfl ⟨(((BW.out.alloc BW.out.size _)).alloc (by have := BW.out.size; simp; try omega) _).alloc (by have := BW.out.size; simp; try omega) _, j, HI.out, .inr (.inr ⟨.inr HK.out, NC.out, _, wr.heap.size + 1, rfl, by simp [go_sem], by simp [go_sem], by simp [go_sem], by simp [go_sem]⟩)⟩
        · have HI := Lib.hid (show IsCut zs n j from ⟨by omega, HC.out, fun _ => .inr (.inl hc)⟩)
          have HK := Lib.hid (show cd zs j ≠ 11 by omega)
          clear HC hc
          go_wp2_with fail
          exact bodyPost_ret (v := .tuple #[.slice none 0 0, .bool false]) (by simp [results, Try.results24, go_sem]) rfl ⟨BW.out.alloc BW.out.size _, j, HI.out, .inl ⟨by omega, HK.out, rfl⟩⟩
        · have HI := Lib.hid (show IsCut zs n j from ⟨by omega, HC.out, fun _ => .inr (.inr hc)⟩)
          have HK := Lib.hid (show cd zs j ≠ 11 by omega)
          clear HC hc
          go_wp2_with fail
          exact bodyPost_ret (v := .tuple #[.slice none 0 0, .bool false]) (by simp [results, Try.results24, go_sem]) rfl ⟨BW.out.alloc BW.out.size _, j, HI.out, .inl ⟨by omega, HK.out, rfl⟩⟩
      · obtain rfl : j = n := by omega
        have HI := Lib.hid (show IsCut zs j j from ⟨by omega, HC.out, fun h => absurd h (by omega)⟩)
        clear HC
        cases bb
        · have NC := Lib.hid (show ¬ Cares zs j from fun h => by have := HF.out.2 h; cases this)
          go_wp2_with fail
          exact bodyPost_ret (v := .tuple #[.slice (some ⟨g, 0, none⟩) j cap, .bool true]) (by simp [results, Try.results24, go_sem]) rfl ⟨BW.out, j, HI.out, .inr (.inl ⟨.inl rfl, NC.out, rfl⟩)⟩
        · have NC := Lib.hid (show Cares zs j from HF.out.1 rfl)
          go_wp2_with fail
          exact bodyPost_ret (v := .tuple #[.slice (some ⟨wr.heap.size + 1, 0, none⟩) 1 1, .bool true]) (by simp [results, Try.results24, go_sem]) rfl ⟨((BW.out).alloc (by have := BW.out.size; simp; try omega) _).alloc (by have := BW.out.size; simp; try omega) _, j, HI.out, .inr (.inr ⟨.inl rfl, NC.out, _, wr.heap.size, rfl, by simp [go_sem], by simp [go_sem], by simp [go_sem], by simp [go_sem]⟩)⟩
  · have e1 : ((n : Int) == 1) = false := by simp; omega
    have e2 : (n == 1) = false := by simp; omega
    clear n1 hg ht
    go_enter Try.func24, Try.ntmps24
    go_wp2_with fail
    go_step3
    go_wp2_with fail
    go_step3
    go_wp2_with fail
    clear e1 e2
    obtain ⟨W0, hW0⟩ : ∃ W, W = (w.alloc (.cells #[.int .i32 o] 30)).alloc (.cells #[.int .i32 cl] 30) := ⟨_, rfl⟩
    rw [← hW0]
    have a3 : W0.cell? ⟨w.heap.size, 0, none⟩ = some (.int .i32 o) := by rw [hW0]; simp [go_sem]
    have a5 : W0.cell? ⟨w.heap.size + 1, 0, none⟩ = some (.int .i32 cl) := by rw [hW0]; simp [go_sem]
    have B0 := Lib.hid (show Below w.heap.size w W0 from by rw [hW0]; exact ((Below.refl _ _).alloc (Nat.le_refl _) _).alloc (by simp) _)
    clear hW0
    go_loopw [1, 10, 46] (fun s b i wr => T1 g n cap zs W0 s b i wr) (fun s b i _ => n - (intOf i).toNat)
    case atStart => exact ⟨0, false, by omega, rfl, rfl, rfl, Lib.hid ⟨fun h => (by cases h), fun ⟨q, h, _⟩ => absurd h (by omega)⟩, Lib.hid (fun q hq => absurd hq (by omega)), Lib.hid (Below.refl _ _)⟩
    case round =>
      obtain ⟨j, bb, hj, rfl, rfl, rfl, HF, HC, HB⟩ := hrel
      have b3 := kept HB.out a3
      have b5 := kept HB.out a5
      have l3 : w.heap.size < wr.heap.size := World.block_lt_of_cell? _ _ b3
      have l5 : w.heap.size + 1 < wr.heap.size := World.block_lt_of_cell? _ _ b5
      have BW := Lib.hid (B0.out.trans (HB.out.mono B0.out.size))
      by_cases hjn : j < n
      · obtain ⟨v, hs, c0, c1⟩ := (HR.out.below BW.out) j hjn
        obtain ⟨b, hs1, lb, hs3⟩ := hs
        clear hs1
        have lg : g < wr.heap.size := World.block_lt_of_cell? _ _ c0
        have j0 : (0 : Int) ≤ (j : Int) := Int.natCast_nonneg _
        have j1 : (j : Int) < (n : Int) := by omega
        rcases hs3 with ⟨hc, rfl⟩ | ⟨hc, rfl⟩ | ⟨hc, rfl⟩ | ⟨hc, rfl⟩ | ⟨hc, rfl⟩ | ⟨hc, rfl⟩ | ⟨hc, rfl⟩ | ⟨hc, rfl⟩ | ⟨hc, rfl, k0⟩ | ⟨hc, rfl, k0⟩ | ⟨hc, rfl, k0⟩ | ⟨hc, rfl, k0⟩ | ⟨hc, rfl, lx, k0⟩ | ⟨hc, rfl⟩
        · have HF1 := Lib.hid (cares_no HF.out (by omega))
          have HC1 := Lib.hid (cut_next HC.out (by omega))
          clear HF HC hc
          go_wp2_with fail
          exact ⟨⟨j + 1, _, by omega, rfl, rfl, by go_num, HF1, HC1, Lib.hid (HB.out.alloc HB.out.size _)⟩, by simp [intOf]; omega⟩
        · have HF1 := Lib.hid (cares_no HF.out (by omega))
          have HC1 := Lib.hid (cut_next HC.out (by omega))
          clear HF HC hc
          go_wp2_with fail
          exact ⟨⟨j + 1, _, by omega, rfl, rfl, by go_num, HF1, HC1, Lib.hid (HB.out.alloc HB.out.size _)⟩, by simp [intOf]; omega⟩
        · have HF1 := Lib.hid (cares_no HF.out (by omega))
          have HC1 := Lib.hid (cut_next HC.out (by omega))
          clear HF HC hc
          go_wp2_with fail
          exact ⟨⟨j + 1, _, by omega, rfl, rfl, by go_num, HF1, HC1, Lib.hid (HB.out.alloc HB.out.size _)⟩, by simp [intOf]; omega⟩
        · have HF1 := Lib.hid (cares_no HF.out (by omega))
          have HC1 := Lib.hid (cut_next HC.out (by omega))
          clear HF HC hc
          go_wp2_with fail
          exact ⟨⟨j + 1, _, by omega, rfl, rfl, by go_num, HF1, HC1, Lib.hid (HB.out.alloc HB.out.size _)⟩, by simp [intOf]; omega⟩
        · have HF1 := Lib.hid (cares_no HF.out (by omega))
          have HC1 := Lib.hid (cut_next HC.out (by omega))
          clear HF HC hc
          go_wp2_with fail
          exact ⟨⟨j + 1, _, by omega, rfl, rfl, by go_num, HF1, HC1, Lib.hid (HB.out.alloc HB.out.size _)⟩, by simp [intOf]; omega⟩
        · have HF1 := Lib.hid (cares_no HF.out (by omega))
          have HC1 := Lib.hid (cut_next HC.out (by omega))
          clear HF HC hc
          go_wp2_with fail
          exact ⟨⟨j + 1, _, by omega, rfl, rfl, by go_num, HF1, HC1, Lib.hid (HB.out.alloc HB.out.size _)⟩, by simp [intOf]; omega⟩
        · have HF1 := Lib.hid (cares_no HF.out (by omega))
          have HC1 := Lib.hid (cut_next HC.out (by omega))
          clear HF HC hc
          go_wp2_with fail
          exact ⟨⟨j + 1, _, by omega, rfl, rfl, by go_num, HF1, HC1, Lib.hid (HB.out.alloc HB.out.size _)⟩, by simp [intOf]; omega⟩
        · have HF1 := Lib.hid (cares_no HF.out (by omega))
          have HC1 := Lib.hid (cut_next HC.out (by omega))
          clear HF HC hc
          go_wp2_with fail
          exact ⟨⟨j + 1, _, by omega, rfl, rfl, by go_num, HF1, HC1, Lib.hid (HB.out.alloc HB.out.size _)⟩, by simp [intOf]; omega⟩
        · have HF1 := Lib.hid (cares_no HF.out (by omega))
          have HC1 := Lib.hid (cut_next HC.out (by omega))
          clear HF HC hc
          go_wp2_with fail
          exact ⟨⟨j + 1, _, by omega, rfl, rfl, by go_num, HF1, HC1, Lib.hid (HB.out.alloc HB.out.size _)⟩, by simp [intOf]; omega⟩
        · have HF1 := Lib.hid (cares_yes (zs := zs) (j := j) (by omega))
          have HC1 := Lib.hid (cut_next HC.out (by omega))
          clear HF HC hc
          go_wp2_with fail
          exact ⟨⟨j + 1, _, by omega, rfl, rfl, by go_num, HF1, HC1, Lib.hid (HB.out.alloc HB.out.size _)⟩, by simp [intOf]; omega⟩
        · have HF1 := Lib.hid (cares_yes (zs := zs) (j := j) (by omega))
          have HC1 := Lib.hid (cut_next HC.out (by omega))
          clear HF HC hc
          go_wp2_with fail
          exact ⟨⟨j + 1, _, by omega, rfl, rfl, by go_num, HF1, HC1, Lib.hid (HB.out.alloc HB.out.size _)⟩, by simp [intOf]; omega⟩
        · have HI := Lib.hid (show IsCut zs n j from ⟨by omega, HC.out, fun _ => .inl hc⟩)
          have HK := Lib.hid hc
          clear HC hc
          cases bb
          · have NC := Lib.hid (show ¬ Cares zs j from fun h => by have := HF.out.2 h; cases this)
            go_wp2_with fail
            exact bodyPost_ret (v := .tuple #[.slice (some ⟨g, 0, none⟩) j cap, .bool true]) (by simp [results, Try.results24, go_sem]) rfl ⟨(BW.out.alloc BW.out.size _), j, HI.out, .inr (.inl ⟨.inr HK.out, NC.out, rfl⟩)⟩
          · have NC := Lib.hid (show Cares zs j from HF.out.1 rfl)
            go_wp2_with fail
            exact bodyPost_ret (v := .tuple #[.slice (some ⟨wr.heap.size + 2, 0, none⟩) 1 1, .bool true]) (by simp [results, Try.results24, go_sem]) rfl ⟨(((BW.out.alloc BW.out.size _)).alloc (by have := BW.out.size; simp; try omega) _).alloc (by have := BW.out.size; simp; try omega) _, j, HI.out, .inr (.inr ⟨.inr HK.out, NC.out, _, wr.heap.size + 1, rfl, by simp [go_sem], by simp [go_sem], by simp [go_sem], by simp [go_sem]⟩)⟩
        · have HI := Lib.hid (show IsCut zs n j from ⟨by omega, HC.out, fun _ => .inr (.inl hc)⟩)
          have HK := Lib.hid (show cd zs j ≠ 11 by omega)
          clear HC hc
          go_wp2_with fail
          exact bodyPost_ret (v := .tuple #[.slice none 0 0, .bool false]) (by simp [results, Try.results24, go_sem]) rfl ⟨BW.out.alloc BW.out.size _, j, HI.out, .inl ⟨by omega, HK.out, rfl⟩⟩
        · have HI := Lib.hid (show IsCut zs n j from ⟨by omega, HC.out, fun _ => .inr (.inr hc)⟩)
          have HK := Lib.hid (show cd zs j ≠ 11 by omega)
          clear HC hc
          go_wp2_with fail
          exact bodyPost_ret (v := .tuple #[.slice none 0 0, .bool false]) (by simp [results, Try.results24, go_sem]) rfl ⟨BW.out.alloc BW.out.size _, j, HI.out, .inl ⟨by omega, HK.out, rfl⟩⟩
      · obtain rfl : j = n := by omega
        have HI := Lib.hid (show IsCut zs j j from ⟨by omega, HC.out, fun h => absurd h (by omega)⟩)
        clear HC
        cases bb
        · have NC := Lib.hid (show ¬ Cares zs j from fun h => by have := HF.out.2 h; cases this)
          go_wp2_with fail
          exact bodyPost_ret (v := .tuple #[.slice (some ⟨g, 0, none⟩) j cap, .bool true]) (by simp [results, Try.results24, go_sem]) rfl ⟨BW.out, j, HI.out, .inr (.inl ⟨.inl rfl, NC.out, rfl⟩)⟩
        · have NC := Lib.hid (show Cares zs j from HF.out.1 rfl)
          go_wp2_with fail
          exact bodyPost_ret (v := .tuple #[.slice (some ⟨wr.heap.size + 1, 0, none⟩) 1 1, .bool true]) (by simp [results, Try.results24, go_sem]) rfl ⟨((BW.out).alloc (by have := BW.out.size; simp; try omega) _).alloc (by have := BW.out.size; simp; try omega) _, j, HI.out, .inr (.inr ⟨.inl rfl, NC.out, _, wr.heap.size, rfl, by simp [go_sem], by simp [go_sem], by simp [go_sem], by simp [go_sem]⟩)⟩

/-- The locations that a block round the answer gets. -/
def oL (L o : Int) (d : Nat) : Int := if d = 0 then o else L
def cL (C cl : Int) (d : Nat) : Int := if d = 0 then cl else C
set_option maxRecDepth 100000 in
set_option maxHeartbeats 4000000 in
theorem tryWr (g n cap : Nat) (zs : List Int) (L C : Int) (hn : n ≤ 65536) (hnc : n ≤ cap) : ∀ (d : Nat) (o cl : Int) (s : Value) (w : World), d ≤ 255 → Rows w g n zs → Wr L C w (.slice (some ⟨g, 0, none⟩) n cap) d s → Calls Try.prog 24 #[.agg #[.int .i32 o], s, .agg #[.int .i32 cl]] w (TbP zs g cap n (oL L o d) (cL C cl d) w)
  | 0, o, cl, s, w, _, hr, hw => by
    obtain rfl : s = _ := hw
    exact tryBase g n cap o cl zs w hr hn hnc
  | d + 1, o, cl, s, w, hd, hr, hw => by
    obtain ⟨G, nb, ao, l, c, rfl, c0, c1, c2, c3, hw'⟩ := hw
    have lG : G < w.heap.size := World.block_lt_of_cell? _ _ c0
    have lb : nb < w.heap.size := World.block_lt_of_cell? _ _ c2
    have he : oL L (lo_ L d) d = oL L o (d + 1) ∧ cL C (cl_ C d) d = cL C cl (d + 1) := by
      by_cases e : d = 0
      · subst e; exact ⟨rfl, rfl⟩
      · simp [oL, cL, e]
    obtain ⟨lo, hlo⟩ : ∃ lo, lo = lo_ L d := ⟨_, rfl⟩
    obtain ⟨co, hco⟩ : ∃ co, co = cl_ C d := ⟨_, rfl⟩
    rw [← hlo] at c1 he
    rw [← hco] at c3 he
    have HE := Lib.hid he
    clear hlo hco he
    have HC := Lib.hid (fun (W : World) (hb : Below w.heap.size w W) => tryWr g n cap zs L C hn hnc d lo co (.slice ao l c) W (by omega) (hr.below hb) (hw'.below hb))
    clear hr hw'
    go_enter Try.func24, Try.ntmps24
    go_wp2_with fail
    go_step3
    go_wp2_with fail
    obtain ⟨W0, hW0⟩ : ∃ W, W = (w.alloc (.cells #[.int .i32 o] 30)).alloc (.cells #[.int .i32 cl] 30) := ⟨_, rfl⟩
    rw [← hW0]
    have B0 : Below w.heap.size w W0 := by rw [hW0]; exact ((Below.refl _ _).alloc (Nat.le_refl _) _).alloc (by simp) _
    have g1 := kept B0 c1
    have g2 := kept B0 c2
    have g3 := kept B0 c3
    have l1 : G < W0.heap.size := Nat.lt_of_lt_of_le lG B0.size
    have l2 : nb < W0.heap.size := Nat.lt_of_lt_of_le lb B0.size
    clear hW0 c0 c1 c2 c3
    go_region_held3 (fun w' => w'.cell? ⟨G, 1, none⟩ = some (.int .i32 lo) ∧ w'.cell? ⟨nb, 0, none⟩ = some (.slice ao l c) ∧ w'.cell? ⟨nb, 1, none⟩ = some (.int .i32 co)) (repeat' (first | (refine And.intro ?_ ?_) | assumption | apply kDrew)) (first | (go_at_call 24; (with_reducible refine Calls.mono (HC.out _ ?hb) ?_); (case hb => with_reducible first | exact B0 | exact B0.drew); rintro e w1 hp; obtain ⟨ao', l', c', bb, rfl⟩ := tbp_ret hp; have m1 := kept hp.1 g1; have m2 := kept hp.1 g2; have m3 := kept hp.1 g3))
    all_goals
      go_wp2_with fail
      exact bodyPost_ret (v := .tuple #[.slice ao' l' c', .bool bb]) (by simp [results, Try.results24, go_sem]) rfl (by rw [← HE.out.1, ← HE.out.2]; exact ⟨B0.drew.trans (hp.1.mono B0.drew.size), hp.2⟩)
set_option maxRecDepth 100000 in
theorem try8 (g n cap : Nat) (zs : List Int) (L C : Int) (hn : n ≤ 65536) (hnc : n ≤ cap) (d : Nat) (o cl : Int) (ao : Option Addr) (l c : Nat) (w : World) (hd : d ≤ 255) (hr : Rows w g n zs) (hw : Wr L C w (.slice (some ⟨g, 0, none⟩) n cap) d (.slice ao l c)) : Calls Try.prog 8 #[.int .i32 o, .slice ao l c, .int .i32 cl] w (TbP zs g cap n (oL L o d) (cL C cl d) w) := by
  have HC := Lib.hid (tryWr g n cap zs L C hn hnc d o cl (.slice ao l c) w hd hr hw)
  clear hr hw
  go_enter Try.func8, Try.ntmps8
  go_wp2_with fail
  refine HC.out.mono ?_
  rintro e w1 hp
  obtain ⟨ao', l', c', bb, rfl⟩ := tbp_ret hp
  have HP := Lib.hid hp
  clear hp
  go_wp2_with fail
  exact bodyPost_ret (v := .tuple #[.slice ao' l' c', .bool bb]) (by simp [results, Try.results8, go_sem]) rfl HP.out
end Go.Proofs.Ytjnffbnipjkibaa
