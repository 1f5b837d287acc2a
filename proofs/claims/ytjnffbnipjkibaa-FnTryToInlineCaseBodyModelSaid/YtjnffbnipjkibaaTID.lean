/- Proved here: the contracts of the readers of the answer. Conditions: the cells, as stated. -/
import Derived.Test.YtjnffbnipjkibaaTIC
import Derived.WalkKit
import Derived.WalkSpells
import Derived.WalkLawsBesides
import Derived.Lib.Hide
import Derived.Lib.SliceRun
import Derived.Deep.RegionWith
import Derived.OwnWalk
import Derived.Laws.OwnMore
import Derived.Deep.AppendLies
import Derived.BigQuiet
import Derived.Deep.QuietTactic
namespace Go.Proofs.Ytjnffbnipjkibaa
open Go.RowKit
set_option linter.unusedSimpArgs false
set_option linter.unusedVariables false

/-- A slice that reads as f at each index below len; nil where len is 0 is let in. -/
def RowV (w : World) (a : Option Addr) (len : Nat) (f : Nat → Value) : Prop :=
  0 < len → ∃ B off, a = some ⟨B, off, none⟩ ∧ ∀ i, i < len → w.cell? ⟨B, off + i, none⟩ = some (f i)
theorem RowV.below {w w' : World} {a : Option Addr} {len : Nat} {f : Nat → Value} (h : RowV w a len f) (hb : Below w.heap.size w w') : RowV w' a len f := fun hp => by
  obtain ⟨B, off, e, hc⟩ := h hp
  exact ⟨B, off, e, fun i hi => kept hb (hc i hi)⟩
def ClonedV (len : Nat) (f : Nat → Value) (w : World) (e : Ending) (w' : World) : Prop :=
  ∃ a' cap', e = .returned (.slice a' len cap') ∧ RowV w' a' len f ∧ Below w.heap.size w w'
theorem rowv_ints {k : IntKind} {w : World} {a : Option Addr} {len cap : Nat} {zs : List Int} (h : IsRow k w a len cap zs) : RowV w a len (fun i => .int k (zs.getD i 0)) := by
  intro hp
  rcases h with ⟨_, rfl, _⟩ | ⟨x, rfl, hl, hm, hz, hcell, _⟩
  · omega
  · obtain ⟨b, off, rfl⟩ := spot_none (hcell 0 (by omega))
    exact ⟨b, off, rfl, fun i hi => by rw [← add_none]; exact hcell i (by omega)⟩
theorem rowv_bools {w : World} {a : Option Addr} {len cap : Nat} {zs : List Bool} (h : IsBools w a len cap zs) : RowV w a len (fun i => .bool (zs.getD i false)) := by
  intro hp
  rcases h with ⟨_, rfl, _⟩ | ⟨x, rfl, hl, hm, hz, hcell⟩
  · omega
  · obtain ⟨b, off, rfl⟩ := spot_none (hcell 0 (by omega))
    exact ⟨b, off, rfl, fun i hi => by rw [← add_none]; exact hcell i (by omega)⟩
theorem rowv_strs {w : World} {a : Option Addr} {len cap : Nat} {zs : List ByteArray} (h : IsStrs w a len cap zs) : RowV w a len (fun i => .string (zs.getD i ByteArray.empty)) := by
  intro hp
  rcases h with ⟨_, rfl, _⟩ | ⟨x, rfl, hl, hm, hz, hcell, _⟩
  · omega
  · obtain ⟨b, off, rfl⟩ := spot_none (hcell 0 (by omega))
    exact ⟨b, off, rfl, fun i hi => by rw [← add_none]; exact hcell i (by omega)⟩
theorem len_ints {k : IntKind} {w : World} {a : Option Addr} {len cap : Nat} {zs : List Int} (h : IsRow k w a len cap zs) : len ≤ maxLen ∧ len ≤ zs.length ∧ ∀ i, (Lit.int k (zs.getD i 0)).wf = true ∨ zs.length ≤ i := by
  rcases h with ⟨_, rfl, _, rfl⟩ | ⟨x, rfl, hl, hm, hz, hcell, hw⟩
  · exact ⟨by unfold maxLen; omega, by simp, fun i => .inr (by simp)⟩
  · refine ⟨by omega, by omega, fun i => ?_⟩
    by_cases hi : i < zs.length
    · left; exact hw _ (by simp [List.getD, hi])
    · right; omega
theorem len_bools {w : World} {a : Option Addr} {len cap : Nat} {zs : List Bool} (h : IsBools w a len cap zs) : len ≤ maxLen := by
  rcases h with ⟨_, rfl, _, rfl⟩ | ⟨x, rfl, hl, hm, hz, hcell⟩
  · unfold maxLen; omega
  · omega
theorem len_strs {w : World} {a : Option Addr} {len cap : Nat} {zs : List ByteArray} (h : IsStrs w a len cap zs) : len ≤ maxLen ∧ ∀ i, (zs.getD i ByteArray.empty).size ≤ maxLen := by
  rcases h with ⟨_, rfl, _, rfl⟩ | ⟨x, rfl, hl, hm, hz, hcell, hw⟩
  · exact ⟨by unfold maxLen; omega, fun i => by simp⟩
  · refine ⟨by omega, fun i => ?_⟩
    by_cases hi : i < zs.length
    · exact hw _ (by simp [List.getD, hi])
    · simp [List.getD, hi]

def BpP (r : Value) (w : World) (e : Ending) (w' : World) : Prop := e = .returned r ∧ Below w.heap.size w w'
set_option maxRecDepth 100000 in
set_option maxHeartbeats 1000000 in
theorem bp_no (t b : Nat) (l : Int) (w : World) (ht : t ≠ 55) : Calls Try.prog 12 #[.agg #[.iface t (.pointer (some ⟨b, 0, none⟩)), .int .i32 l]] w (BpP (.tuple #[.slice none 0 0, .int .i32 0, .bool false]) w) := by
  go_enter Try.func12, Try.ntmps12
  go_wp2_with fail
  exact bodyPost_ret (v := .tuple #[.slice none 0 0, .int .i32 0, .bool false]) (by simp [results, Try.results12, go_sem]) rfl ⟨rfl, (by repeat (first | with_reducible exact Below.refl _ _ | (with_reducible refine Below.alloc ?_ (by simp; try omega) _) | (with_reducible refine Below.setCell ?_ (by simp; try omega) _)))⟩
set_option maxRecDepth 100000 in
set_option maxHeartbeats 1000000 in
theorem bp_yes (b : Nat) (l cl : Int) (ao : Option Addr) (n c : Nat) (w : World) (h0 : w.cell? ⟨b, 0, none⟩ = some (.slice ao n c)) (h1 : w.cell? ⟨b, 1, none⟩ = some (.int .i32 cl)) : Calls Try.prog 12 #[.agg #[.iface 55 (.pointer (some ⟨b, 0, none⟩)), .int .i32 l]] w (BpP (.tuple #[.slice ao n c, .int .i32 cl, .bool true]) w) := by
  have lb : b < w.heap.size := World.block_lt_of_cell? _ _ h0
  go_enter Try.func12, Try.ntmps12
  go_wp2_with fail
  go_quiet (fail)
  go_wp2_with fail
  exact bodyPost_ret (v := .tuple #[.slice ao n c, .int .i32 cl, .bool true]) (by simp [results, Try.results12, go_sem]) rfl ⟨rfl, below_drewN ((Below.refl _ _).alloc (Nat.le_refl _) _) _⟩
def Locs (w : World) (g k : Nat) : Prop := ∀ q, q < k → w.cell? ⟨g, q * 2 + 1, none⟩ = some (.int .i32 ((q : Int) + 1))
theorem Rows.locs {w : World} {g n : Nat} {zs : List Int} (h : Rows w g n zs) : Locs w g n := fun q hq => by obtain ⟨v, _, _, h3⟩ := h q hq; exact h3
theorem Locs.below {w w' : World} {g n : Nat} (h : Locs w g n) (hb : Below w.heap.size w w') : Locs w' g n := fun q hq => kept hb (h q hq)
def LF (k : Nat) (W : World) (i : Value) (wr : World) : Prop := ∃ j : Nat, j ≤ k ∧ i = .int .i64 j ∧ W = wr
set_option maxRecDepth 100000 in
set_option maxHeartbeats 1000000 in
theorem locsOne (g k c : Nat) (w : World) (h : Locs w g k) (hk : k ≤ 65536) : Calls Try.prog 13 #[.slice (some ⟨g, 0, none⟩) k c, .int .i64 k] w (fun e w' => e = .returned (.bool true) ∧ w = w') := by
  have H := Lib.hid h
  clear h
  go_enter Try.func13, Try.ntmps13
  go_wp2_with fail
  go_loopw [5] (fun i wr => LF k w i wr) (fun i _ => k - (intOf i).toNat)
  case atStart => exact ⟨0, by omega, rfl, rfl⟩
  case round =>
    obtain ⟨j, hj, rfl, rfl⟩ := hrel
    by_cases hjk : j < k
    · have c0 := H.out j hjk
      have lg : g < w.heap.size := World.block_lt_of_cell? _ _ c0
      have j0 : (0 : Int) ≤ (j : Int) := Int.natCast_nonneg _
      have j1 : (j : Int) < (k : Int) := by omega
      go_wp2_with fail
      go_roundw
      case rel => exact ⟨j + 1, by omega, by go_num, rfl⟩
      case measure => simp [intOf]; omega
    · obtain rfl : j = k := by omega
      go_wp2_with fail
      go_ret
      exact ⟨rfl, rfl⟩
set_option maxRecDepth 100000 in
theorem bytes7 (a : Option Addr) (n cap : Nat) (d : Int) (w : World) (h1 : n ≤ 1048576) : Calls Try.prog 7 #[.slice a n cap, .int .u8 d] w fun e w' => e = .returned (.bool true) ∧ w = w' := by
  go_enter Try.func7, Try.ntmps7
  go_wp2_with fail
  go_ret
  exact ⟨rfl, rfl⟩
set_option maxRecDepth 100000 in
theorem bytes7n (a : Option Addr) (n cap : Nat) (d : Int) (w : World) (h1 : 1048576 < n) : Calls Try.prog 7 #[.slice a n cap, .int .u8 d] w fun e w' => e = .returned (.bool false) ∧ w = w' := by
  go_enter Try.func7, Try.ntmps7
  go_wp2_with fail
  go_ret
  exact ⟨rfl, rfl⟩
set_option maxRecDepth 100000 in
theorem bytes11 (a : Option Addr) (n cap : Nat) (d : Int) (w : World) (h1 : n ≤ 1048576) : Calls Try.prog 11 #[.slice a n cap, .int .u8 d] w fun e w' => e = .returned (.bool true) ∧ w = w' := by
  go_enter Try.func11, Try.ntmps11
  go_wp2_with fail
  go_ret
  exact ⟨rfl, rfl⟩
set_option maxRecDepth 100000 in
theorem bytes11n (a : Option Addr) (n cap : Nat) (d : Int) (w : World) (h1 : 1048576 < n) : Calls Try.prog 11 #[.slice a n cap, .int .u8 d] w fun e w' => e = .returned (.bool false) ∧ w = w' := by
  go_enter Try.func11, Try.ntmps11
  go_wp2_with fail
  go_ret
  exact ⟨rfl, rfl⟩
theorem rowB {w : World} {a : Option Addr} {n cap : Nat} {zs : List Int} (h : IsRow .u8 w a n cap zs) : RowB w a n zs := fun i hi => by
  obtain ⟨B, off, e, hc⟩ := rowv_ints h (by omega)
  exact ⟨B, off, e, hc i hi⟩
theorem rowZ {w : World} {a : Option Addr} {n cap : Nat} {zs : List Int} (h : IsRow .u8 w a n cap zs) : ∀ i, 0 ≤ zs.getD i 0 ∧ zs.getD i 0 ≤ 255 := fun i => by
  rcases (len_ints h).2.2 i with h | h
  · exact wf_u8 h
  · simp [List.getD, List.getElem?_eq_none h]
theorem rows_of {w : World} {g n : Nat} {xs : List Value} {zs : List Int} {B c : Nat} (ho : w.ownsRow B 34 2 (.slice (some ⟨g, 0, none⟩) n c) n xs) (hr : Rw (g + 1) w xs n zs) : Rows w g n zs := fun q hq => by
  obtain ⟨v, h1, h2, h3⟩ := hr.2 q hq
  exact ⟨v, h1.low (Nat.zero_le _), by rw [World.ownsRow.cellAt ho _ (by omega)]; exact h2, by rw [World.ownsRow.cellAt ho _ (by omega)]; exact h3⟩
/-- Statement 0 .. n - 1 at blocks ga and gb: the same place, and no blocks or blocks with the same statements and the same end. -/
def SameAt (w : World) (ga gb i : Nat) : Prop := ∃ (t b b' : Nat) (l : Int), w.cell? ⟨ga, i * 2, none⟩ = some (.iface t (.pointer (some ⟨b, 0, none⟩))) ∧ w.cell? ⟨ga, i * 2 + 1, none⟩ = some (.int .i32 l) ∧ w.cell? ⟨gb, i * 2, none⟩ = some (.iface t (.pointer (some ⟨b', 0, none⟩))) ∧ w.cell? ⟨gb, i * 2 + 1, none⟩ = some (.int .i32 l) ∧
  (t ≠ 55 ∨ (t = 55 ∧ ∃ (g k c : Nat) (cl : Int), k ≤ 65536 ∧ w.cell? ⟨b, 0, none⟩ = some (.slice (some ⟨g, 0, none⟩) k c) ∧ w.cell? ⟨b, 1, none⟩ = some (.int .i32 cl) ∧ w.cell? ⟨b', 0, none⟩ = some (.slice (some ⟨g, 0, none⟩) k c) ∧ w.cell? ⟨b', 1, none⟩ = some (.int .i32 cl) ∧ Locs w g k))
theorem SameAt.below {w w' : World} {ga gb i : Nat} (h : SameAt w ga gb i) (hb : Below w.heap.size w w') : SameAt w' ga gb i := by
  obtain ⟨t, b, b', l, h1, h2, h3, h4, h5⟩ := h
  refine ⟨t, b, b', l, kept hb h1, kept hb h2, kept hb h3, kept hb h4, ?_⟩
  rcases h5 with h5 | ⟨e, g, k, c, cl, k0, g1, g2, g3, g4, g5⟩
  · exact .inl h5
  · exact .inr ⟨e, g, k, c, cl, k0, kept hb g1, kept hb g2, kept hb g3, kept hb g4, g5.below hb⟩
def SS (n : Nat) (W : World) (i : Value) (wr : World) : Prop := ∃ j : Nat, j ≤ n ∧ i = .int .i64 j ∧ Hid (Below W.heap.size W wr)
set_option maxRecDepth 100000 in
set_option maxHeartbeats 4000000 in
theorem same (ga gb n ca cb : Nat) (w : World) (h : ∀ i, i < n → SameAt w ga gb i) (hn : n ≤ 65536) : Calls Try.prog 10 #[.slice (some ⟨ga, 0, none⟩) n ca, .slice (some ⟨gb, 0, none⟩) n cb] w (fun e w' => e = .returned (.bool true) ∧ Below w.heap.size w w') := by
  have H := Lib.hid h
  clear h
  go_enter Try.func10, Try.ntmps10
  go_wp2_with fail
  go_loopw [5] (fun i wr => SS n w i wr) (fun i _ => n - (intOf i).toNat)
  case atStart => exact ⟨0, by omega, rfl, Lib.hid (Below.refl _ _)⟩
  case round =>
    obtain ⟨j, hj, rfl, HB⟩ := hrel
    by_cases hjn : j < n
    · obtain ⟨t, b, b', l, h1, h2, h3, h4, h5⟩ := (H.out j hjn).below HB.out
      have la : ga < wr.heap.size := World.block_lt_of_cell? _ _ h1
      have lb : gb < wr.heap.size := World.block_lt_of_cell? _ _ h3
      have j0 : (0 : Int) ≤ (j : Int) := Int.natCast_nonneg _
      have j1 : (j : Int) < (n : Int) := by omega
      have W1 := Lib.hid (below_drewN (Below.refl wr.heap.size wr))
      go_wp2_with fail
      go_quiet (fail)
      have hd := W1.out nq
      obtain ⟨W2, hW2⟩ : ∃ W, W = wr.drewN nq := ⟨_, rfl⟩
      rw [← hW2] at hd ⊢
      clear hW2 W1
      have HB2 := Lib.hid (HB.out.trans (hd.mono HB.out.size))
      have k1 := kept hd h1
      have k2 := kept hd h2
      have k3 := kept hd h3
      have k4 := kept hd h4
      have la2 : ga < W2.heap.size := World.block_lt_of_cell? _ _ k1
      have lb2 : gb < W2.heap.size := World.block_lt_of_cell? _ _ k3
      have hd' := Lib.hid hd
      clear hd h1 h2 h3 h4 la lb HB
      rcases h5 with ht | ⟨ht, g, k, c, cl, hk, g1, g2, g3, g4, hl⟩
      · have HC1 := Lib.hid (bp_no t b l W2 ht)
        have HC2 := Lib.hid (fun W => bp_no t b' l W ht)
        go_wp2_with fail
        refine HC1.out.mono ?_
        rintro e w3 ⟨rfl, hb3⟩
        have m3 := kept hb3 k3
        have m4 := kept hb3 k4
        have la3 : gb < w3.heap.size := World.block_lt_of_cell? _ _ m3
        have HB3 := Lib.hid (HB2.out.trans (hb3.mono HB2.out.size))
        clear hb3 HC1 k1 k2 k3 k4 HB2
        go_wp2_with fail
        refine (HC2.out _).mono ?_
        rintro e w4 ⟨rfl, hb4⟩
        have HB4 := Lib.hid (HB3.out.trans (hb4.mono HB3.out.size))
        clear hb4 HC2 HB3
        go_wp2_with fail
        go_roundw
        case rel => exact ⟨j + 1, by omega, by go_num, HB4⟩
        case measure => simp [intOf]; omega
      · subst ht
        have HC1 := Lib.hid (bp_yes b l cl (some ⟨g, 0, none⟩) k c W2 (kept hd'.out g1) (kept hd'.out g2))
        have HC2 := Lib.hid (fun (W : World) (hb : Below W2.heap.size W2 W) => bp_yes b' l cl (some ⟨g, 0, none⟩) k c W (kept hb (kept hd'.out g3)) (kept hb (kept hd'.out g4)))
        have HL := Lib.hid (hl.below hd'.out)
        clear g1 g2 g3 g4 hl
        go_wp2_with fail
        refine HC1.out.mono ?_
        rintro e w3 ⟨rfl, hb3⟩
        have m3 := kept hb3 k3
        have m4 := kept hb3 k4
        have la3 : gb < w3.heap.size := World.block_lt_of_cell? _ _ m3
        have HB3 := Lib.hid (HB2.out.trans (hb3.mono HB2.out.size))
        have HB23 := Lib.hid hb3
        clear hb3 HC1 k1 k2 k3 k4 HB2
        go_wp2_with fail
        refine (HC2.out _ HB23.out).mono ?_
        rintro e w4 ⟨rfl, hb4⟩
        have HB4 := Lib.hid (HB3.out.trans (hb4.mono HB3.out.size))
        have HL4 := Lib.hid (HL.out.below (bel2 HB23.out hb4))
        clear hb4 HC2 HB3 HL m3 m4
        go_wp2_with fail
        go_loopw [12] (fun i wq => SS k w4 i wq) (fun i _ => k - (intOf i).toNat)
        case atStart => exact ⟨0, by omega, rfl, Lib.hid (Below.refl _ _)⟩
        case round =>
          obtain ⟨m, hm, rfl, HBq⟩ := hrel
          rename World => wq
          by_cases hmk : m < k
          · have c0 := (HL4.out.below HBq.out) m hmk
            have lg : g < wq.heap.size := World.block_lt_of_cell? _ _ c0
            have m0 : (0 : Int) ≤ (m : Int) := Int.natCast_nonneg _
            have m1 : (m : Int) < (k : Int) := by omega
            go_wp2_with fail
            go_quiet (fail)
            go_wp2_with fail
            go_roundw
            case rel => exact ⟨m + 1, by omega, by go_num, Lib.hid (below_drewN HBq.out _)⟩
            case measure => simp [intOf]; omega
          · obtain rfl : m = k := by omega
            have HBf := Lib.hid (HB4.out.trans (HBq.out.mono HB4.out.size))
            go_wp2_with fail
            go_roundw
            case rel => exact ⟨j + 1, by omega, by go_num, HBf⟩
            case measure => simp [intOf]; omega
    · obtain rfl : j = n := by omega
      go_wp2_with fail
      go_ret
      exact ⟨rfl, HB.out⟩
end Go.Proofs.Ytjnffbnipjkibaa
