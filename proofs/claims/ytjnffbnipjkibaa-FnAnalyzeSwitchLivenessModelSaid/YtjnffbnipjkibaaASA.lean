/- Proved here: the case bodies that the law lays, whether one can fall through, and that none declares anything. Conditions: the bodies' cells, as stated. -/
import Derived.Test.YtjnffbnipjkibaaTIA
import Derived.WalkKit
import Derived.WalkSpells
import Derived.WalkLawsBesides
import Derived.Lib.Hide
import Derived.Lib.SliceRun
import Derived.Deep.RegionWith
import Derived.OwnWalk
import Derived.Laws.OwnMore
import Derived.Deep.AppendLies
import Derived.Deep.LoopGhost
import Derived.WalkMore
namespace Go.Proofs.Ytjnffbnipjkibaa
open Go.RowKit
set_option linter.unusedSimpArgs false
set_option linter.unusedVariables false

/-- A body in blocks from B on, at most m blocks deep, that can fall through or not (r). -/
def Bd (B : Nat) (w : World) : Nat → Value → Bool → Prop
  | 0, s, r => s = .slice none 0 0 ∧ r = true
  | m + 1, s, r => ∃ g t b, B ≤ g ∧ B ≤ b ∧ g < w.heap.size ∧ b < w.heap.size ∧ s = .slice (some ⟨g, 0, none⟩) 1 1 ∧ w.cell? ⟨g, 0, none⟩ = some (.iface t (.pointer (some ⟨b, 0, none⟩))) ∧ w.cell? ⟨g, 1, none⟩ = some (.int .i32 0) ∧
      ((t = 77 ∧ r = true) ∨ ((t = 83 ∨ t = 84 ∨ t = 90) ∧ r = false) ∨ (t = 55 ∧ ∃ ao n c, w.cell? ⟨b, 0, none⟩ = some (.slice ao n c) ∧ Bd B w m (.slice ao n c) r))
theorem Bd.ex {B : Nat} {w w' : World} (he : Ex B w w') : ∀ {m : Nat} {s : Value} {r : Bool}, Bd B w m s r → Bd B w' m s r
  | 0, _, _, h => h
  | m + 1, _, _, ⟨g, t, b, h1, h2, h3, h4, h5, h6, h7, h8⟩ => ⟨g, t, b, h1, h2, Nat.lt_of_lt_of_le h3 he.1, Nat.lt_of_lt_of_le h4 he.1, h5, he.cell h1 h6, he.cell h1 h7, by
      rcases h8 with h | h | ⟨h, ao, n, c, k1, k2⟩
      · exact .inl h
      · exact .inr (.inl h)
      · exact .inr (.inr ⟨h, ao, n, c, he.cell h2 k1, Bd.ex he k2⟩)⟩
theorem Bd.low {B B' : Nat} {w : World} (hb : B' ≤ B) : ∀ {m : Nat} {s : Value} {r : Bool}, Bd B w m s r → Bd B' w m s r
  | 0, _, _, h => h
  | m + 1, _, _, ⟨g, t, b, h1, h2, h3, h4, h5, h6, h7, h8⟩ => ⟨g, t, b, by omega, by omega, h3, h4, h5, h6, h7, by
      rcases h8 with h | h | ⟨h, ao, n, c, k1, k2⟩
      · exact .inl h
      · exact .inr (.inl h)
      · exact .inr (.inr ⟨h, ao, n, c, k1, Bd.low hb k2⟩)⟩
theorem Bd.shape {B : Nat} {w : World} : ∀ {m : Nat} {s : Value} {r : Bool}, Bd B w m s r → ∃ ao n c, s = .slice ao n c
  | 0, _, _, h => ⟨_, _, _, h.1⟩
  | _ + 1, _, _, ⟨_, _, _, _, _, _, _, h, _⟩ => ⟨_, _, _, h⟩
def FtR (r : Bool) (W : World) (k : Nat) (s : Value) (wr : World) : Prop := ∃ m, m < k ∧ Hid (Bd 0 wr m s r) ∧ W = wr
set_option maxRecDepth 100000 in
set_option maxHeartbeats 4000000 in
theorem fallT (m : Nat) (s : Value) (r : Bool) (w : World) (h : Bd 0 w m s r) : Calls Try.prog 53 #[s] w (fun e w' => e = .returned (.bool r) ∧ w = w') := by
  have H := Lib.hid h
  obtain ⟨ao, n, c, rfl⟩ := h.shape
  clear h
  go_enter Try.func53, Try.ntmps53
  go_wp2_with fail
  go_loopg [0] (m + 1) (fun k s wr => FtR r w k s wr)
  case atStart => exact ⟨m, by omega, H, rfl⟩
  case round =>
    obtain ⟨m', hm, HB, rfl⟩ := hrel
    cases m' with
    | zero =>
      obtain ⟨rfl, rfl⟩ := HB.out
      clear H
      go_wp2_with fail
      go_ret
      exact ⟨rfl, rfl⟩
    | succ m' =>
      obtain ⟨g, t, b, h1, h2, h3, h4, rfl, h6, h7, h8⟩ := HB.out
      clear H HB
      rcases h8 with ⟨rfl, rfl⟩ | ⟨rfl | rfl | rfl, rfl⟩ | ⟨rfl, ao', n', c', k1, k2⟩
      · go_wp2_with fail
        go_ret
        exact ⟨rfl, rfl⟩
      · go_wp2_with fail
        go_ret
        exact ⟨rfl, rfl⟩
      · go_wp2_with fail
        go_ret
        exact ⟨rfl, rfl⟩
      · go_wp2_with fail
        go_ret
        exact ⟨rfl, rfl⟩
      · have K := Lib.hid k2
        clear k2
        go_wp2_with fail
        go_roundg (m' + 1)
        case measure => omega
        case rel => exact ⟨m', by omega, K, rfl⟩
set_option maxRecDepth 100000 in
set_option maxHeartbeats 4000000 in
theorem noScope1 (t b : Nat) (w : World) (h : t = 77 ∨ t = 83 ∨ t = 84 ∨ t = 90 ∨ t = 55) : Calls Try.prog 58 #[.agg #[.iface t (.pointer (some ⟨b, 0, none⟩)), .int .i32 0]] w (fun e w' => e = .returned (.bool false) ∧ Below w.heap.size w w') := by
  rcases h with rfl | rfl | rfl | rfl | rfl
  all_goals
    go_enter Try.func58, Try.ntmps58
    go_wp2_with fail
    go_ret
    exact ⟨rfl, (by repeat (first | with_reducible exact Below.refl _ _ | (with_reducible refine Below.alloc ?_ (by simp; try omega) _) | (with_reducible refine Below.setCell ?_ (by simp; try omega) _)))⟩
def NsR (n : Nat) (W : World) (i : Value) (wr : World) : Prop := ∃ j : Nat, j ≤ n ∧ i = .int .i64 j ∧ Hid (Below W.heap.size W wr)
set_option maxRecDepth 100000 in
set_option maxHeartbeats 4000000 in
theorem noScope (B m : Nat) (s : Value) (r : Bool) (w : World) (h : Bd B w m s r) : Calls Try.prog 54 #[s] w (fun e w' => e = .returned (.bool false) ∧ Below w.heap.size w w') := by
  cases m with
  | zero =>
    obtain ⟨rfl, rfl⟩ := h
    go_enter Try.func54, Try.ntmps54
    go_wp2_with fail
    go_loopw [7] (fun i wr => NsR 0 w i wr) (fun i _ => 0 - (intOf i).toNat)
    case atStart => exact ⟨0, by omega, rfl, Lib.hid (Below.refl _ _)⟩
    case round =>
      obtain ⟨j, hj, rfl, HB⟩ := hrel
      obtain rfl : j = 0 := by omega
      go_wp2_with fail
      go_ret
      exact ⟨rfl, HB.out⟩
  | succ m =>
    obtain ⟨g, t, b, h1, h2, h3, h4, rfl, h6, h7, h8⟩ := h
    have ht : t = 77 ∨ t = 83 ∨ t = 84 ∨ t = 90 ∨ t = 55 := by
      rcases h8 with ⟨h, _⟩ | ⟨h | h | h, _⟩ | ⟨h, _⟩
      · exact .inl h
      · exact .inr (.inl h)
      · exact .inr (.inr (.inl h))
      · exact .inr (.inr (.inr (.inl h)))
      · exact .inr (.inr (.inr (.inr h)))
    clear h8
    go_enter Try.func54, Try.ntmps54
    go_wp2_with fail
    go_loopw [7] (fun i wr => NsR 1 w i wr) (fun i _ => 1 - (intOf i).toNat)
    case atStart => exact ⟨0, by omega, rfl, Lib.hid (Below.refl _ _)⟩
    case round =>
      obtain ⟨j, hj, rfl, HB⟩ := hrel
      by_cases hj0 : j = 0
      · subst hj0
        have k6 := kept HB.out h6
        have k7 := kept HB.out h7
        have lg : g < wr.heap.size := World.block_lt_of_cell? _ _ k6
        have HC := Lib.hid (noScope1 t b)
        go_wp2_with fail
        refine (HC.out _ ht).mono ?_
        rintro e w1 ⟨rfl, hb1⟩
        have HB1 := Lib.hid ((HB.out.alloc HB.out.size _).trans (hb1.mono (by have := HB.out.size; simp; omega)))
        clear hb1 HC
        go_wp2_with fail
        go_roundw
        case rel => exact ⟨1, by omega, by rfl, HB1⟩
        case measure => simp [intOf]
      · obtain rfl : j = 1 := by omega
        go_wp2_with fail
        go_ret
        exact ⟨rfl, HB.out⟩

def LfP (t : Nat) (w : World) (e : Ending) (w' : World) : Prop := ∃ b, e = .returned (.agg #[.iface t (.pointer (some ⟨b, 0, none⟩)), .int .i32 0]) ∧ w.heap.size ≤ b ∧ b < w'.heap.size ∧ Below w.heap.size w w'
set_option maxRecDepth 100000 in
set_option maxHeartbeats 1000000 in
theorem lf47 (w : World) : Calls Try.prog 47 #[] w (LfP 90 w) := by
  go_enter Try.func47, Try.ntmps47
  go_wp2_with fail
  exact bodyPost_ret (v := .agg #[.iface 90 (.pointer (some ⟨w.heap.size + 1, 0, none⟩)), .int .i32 0]) (by simp [results, Try.results47, go_sem]) rfl ⟨_, rfl, by omega, by simp, (by repeat (first | with_reducible exact Below.refl _ _ | (with_reducible refine Below.alloc ?_ (by simp; try omega) _) | (with_reducible refine Below.setCell ?_ (by simp; try omega) _)))⟩
set_option maxRecDepth 100000 in
set_option maxHeartbeats 1000000 in
theorem lf48 (w : World) : Calls Try.prog 48 #[] w (LfP 77 w) := by
  go_enter Try.func48, Try.ntmps48
  go_wp2_with fail
  exact bodyPost_ret (v := .agg #[.iface 77 (.pointer (some ⟨w.heap.size + 1, 0, none⟩)), .int .i32 0]) (by simp [results, Try.results48, go_sem]) rfl ⟨_, rfl, by omega, by simp, (by repeat (first | with_reducible exact Below.refl _ _ | (with_reducible refine Below.alloc ?_ (by simp; try omega) _) | (with_reducible refine Below.setCell ?_ (by simp; try omega) _)))⟩
set_option maxRecDepth 100000 in
set_option maxHeartbeats 1000000 in
theorem lf49 (w : World) : Calls Try.prog 49 #[] w (LfP 83 w) := by
  go_enter Try.func49, Try.ntmps49
  go_wp2_with fail
  exact bodyPost_ret (v := .agg #[.iface 83 (.pointer (some ⟨w.heap.size + 1, 0, none⟩)), .int .i32 0]) (by simp [results, Try.results49, go_sem]) rfl ⟨_, rfl, by omega, by simp, (by repeat (first | with_reducible exact Below.refl _ _ | (with_reducible refine Below.alloc ?_ (by simp; try omega) _) | (with_reducible refine Below.setCell ?_ (by simp; try omega) _)))⟩
set_option maxRecDepth 100000 in
set_option maxHeartbeats 1000000 in
theorem lf51 (w : World) : Calls Try.prog 51 #[] w (LfP 84 w) := by
  go_enter Try.func51, Try.ntmps51
  go_wp2_with fail
  exact bodyPost_ret (v := .agg #[.iface 84 (.pointer (some ⟨w.heap.size + 1, 0, none⟩)), .int .i32 0]) (by simp [results, Try.results51, go_sem]) rfl ⟨_, rfl, by omega, by simp, (by repeat (first | with_reducible exact Below.refl _ _ | (with_reducible refine Below.alloc ?_ (by simp; try omega) _) | (with_reducible refine Below.setCell ?_ (by simp; try omega) _)))⟩
def BlP (s : Value) (w : World) (e : Ending) (w' : World) : Prop := ∃ b, e = .returned (.agg #[.iface 55 (.pointer (some ⟨b, 0, none⟩)), .int .i32 0]) ∧ w.heap.size ≤ b ∧ b < w'.heap.size ∧ w'.cell? ⟨b, 0, none⟩ = some s ∧ Below w.heap.size w w'
set_option maxRecDepth 100000 in
set_option maxHeartbeats 1000000 in
theorem blk (ao : Option Addr) (n c : Nat) (w : World) : Calls Try.prog 50 #[.slice ao n c] w (BlP (.slice ao n c) w) := by
  go_enter Try.func50, Try.ntmps50
  go_wp2_with fail
  exact bodyPost_ret (v := .agg #[.iface 55 (.pointer (some ⟨w.heap.size + 1, 0, none⟩)), .int .i32 0]) (by simp [results, Try.results50, go_sem]) rfl ⟨_, rfl, by omega, by simp, by simp [go_sem], (by repeat (first | with_reducible exact Below.refl _ _ | (with_reducible refine Below.alloc ?_ (by simp; try omega) _) | (with_reducible refine Below.setCell ?_ (by simp; try omega) _)))⟩
def falls (c : Int) : Bool := decide (c ≠ 1 ∧ c ≠ 3 ∧ c ≠ 4)
def CbP (c : Int) (w : World) (e : Ending) (w' : World) : Prop := ∃ m s, e = .returned s ∧ Bd w.heap.size w' m s (falls c) ∧ Below w.heap.size w w'
theorem bd_one {B g t b : Nat} {w : World} {r : Bool} (h1 : B ≤ g) (h2 : B ≤ b) (h3 : g < w.heap.size) (h4 : b < w.heap.size) (h6 : w.cell? ⟨g, 0, none⟩ = some (.iface t (.pointer (some ⟨b, 0, none⟩)))) (h7 : w.cell? ⟨g, 1, none⟩ = some (.int .i32 0)) (h : (t = 77 ∧ r = true) ∨ ((t = 83 ∨ t = 84 ∨ t = 90) ∧ r = false)) : Bd B w 1 (.slice (some ⟨g, 0, none⟩) 1 1) r :=
  ⟨g, t, b, h1, h2, h3, h4, rfl, h6, h7, h.elim .inl (fun h => .inr (.inl h))⟩
set_option maxRecDepth 100000 in
set_option maxHeartbeats 4000000 in
theorem caseBody (z c : Int) (w : World) (hz : z % 6 = c) (h0 : 0 ≤ z) (h1 : z ≤ 255) : Calls Try.prog 30 #[.int .u8 z] w (CbP c w) := by
  have hc : c = 0 ∨ c = 1 ∨ c = 2 ∨ c = 3 ∨ c = 4 ∨ c = 5 := by omega
  rcases hc with rfl | rfl | rfl | rfl | rfl | rfl
  · go_enter Try.func30, Try.ntmps30
    go_wp2_with fail
    go_ret
    exact ⟨0, _, rfl, ⟨rfl, rfl⟩, Below.refl _ _⟩
  · go_enter Try.func30, Try.ntmps30
    go_wp2_with fail
    refine (lf47 _).mono ?_
    rintro e w1 ⟨b, rfl, hb1, hb2, hb⟩
    have HB := Lib.hid hb
    have lw := HB.out.size
    clear hb
    go_wp2_with fail
    go_ret
    exact ⟨1, _, rfl, bd_one (g := w1.heap.size) (b := b) (t := 90) (by omega) (by omega) (by simp) (by simp; omega) (by simp [go_sem]) (by simp [go_sem]) (.inr ⟨.inr (.inr rfl), rfl⟩), HB.out.alloc HB.out.size _⟩
  · go_enter Try.func30, Try.ntmps30
    go_wp2_with fail
    refine (lf48 _).mono ?_
    rintro e w1 ⟨b, rfl, hb1, hb2, hb⟩
    have HB := Lib.hid hb
    have lw := HB.out.size
    clear hb
    go_wp2_with fail
    go_ret
    exact ⟨1, _, rfl, bd_one (g := w1.heap.size) (b := b) (t := 77) (by omega) (by omega) (by simp) (by simp; omega) (by simp [go_sem]) (by simp [go_sem]) (.inl ⟨rfl, rfl⟩), HB.out.alloc HB.out.size _⟩
  · go_enter Try.func30, Try.ntmps30
    go_wp2_with fail
    refine (lf49 _).mono ?_
    rintro e w1 ⟨b, rfl, hb1, hb2, hb⟩
    have HB := Lib.hid hb
    have lw := HB.out.size
    clear hb
    go_wp2_with fail
    go_ret
    exact ⟨1, _, rfl, bd_one (g := w1.heap.size) (b := b) (t := 83) (by omega) (by omega) (by simp) (by simp; omega) (by simp [go_sem]) (by simp [go_sem]) (.inr ⟨.inl rfl, rfl⟩), HB.out.alloc HB.out.size _⟩
  · go_enter Try.func30, Try.ntmps30
    go_wp2_with fail
    refine (lf51 _).mono ?_
    rintro e w1 ⟨b, rfl, hb1, hb2, hb⟩
    have HB := Lib.hid hb
    clear hb
    go_wp2_with fail
    refine (blk _ _ _ _).mono ?_
    rintro e w2 ⟨b2, rfl, hb3, hb4, hb5, hb⟩
    have c0 : w2.cell? ⟨w1.heap.size, 0, none⟩ = some (.iface 84 (.pointer (some ⟨b, 0, none⟩))) := kept hb (by simp [go_sem])
    have c1 : w2.cell? ⟨w1.heap.size, 1, none⟩ = some (.int .i32 0) := kept hb (by simp [go_sem])
    have l1 : w1.heap.size < w2.heap.size := World.block_lt_of_cell? _ _ c0
    have lw := HB.out.size
    have HB2 := Lib.hid (show Below w.heap.size w w2 from (HB.out.alloc lw _).trans (hb.mono (by simp; omega)))
    have hb3' : w1.heap.size + 1 ≤ b2 := by simpa using hb3
    have K := Lib.hid (show Bd w.heap.size w2 1 (.slice (some ⟨w1.heap.size, 0, none⟩) 1 1) false from bd_one (by omega) (by omega) (by omega) (by omega) c0 c1 (.inr ⟨.inr (.inl rfl), rfl⟩))
    have HS := Lib.hid hb5
    clear hb hb3 c0 c1 hb5
    go_wp2_with fail
    go_ret
    exact ⟨2, _, rfl, ⟨w2.heap.size, 55, b2, by omega, by omega, by simp, by simp; omega, rfl, by simp [go_sem], by simp [go_sem], .inr (.inr ⟨rfl, _, _, _, kAlloc HS.out, K.out.ex ((Ex.refl _ _).alloc _)⟩)⟩, HB2.out.alloc HB2.out.size _⟩
  · go_enter Try.func30, Try.ntmps30
    go_wp2_with fail
    refine (blk _ _ _ _).mono ?_
    rintro e w2 ⟨b2, rfl, hb3, hb4, hb5, hb⟩
    have HB2 := Lib.hid hb
    have HS := Lib.hid hb5
    have lw := HB2.out.size
    clear hb hb5
    go_wp2_with fail
    go_ret
    exact ⟨1, _, rfl, ⟨w2.heap.size, 55, b2, by omega, by omega, by simp, by simp; omega, rfl, by simp [go_sem], by simp [go_sem], .inr (.inr ⟨rfl, _, _, _, kAlloc HS.out, ⟨rfl, rfl⟩⟩)⟩, HB2.out.alloc HB2.out.size _⟩
end Go.Proofs.Ytjnffbnipjkibaa
