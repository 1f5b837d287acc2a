/- Proved here: what bindingHasObjectRest answers at a name, a gap, an array and an object pattern, from what it answers at the parts. Conditions: the cells, as stated. -/
import Derived.Test.YtjcblmbndkacgaaBase
import Derived.WalkKit
import Derived.WalkSpells
import Derived.WalkLawsBesides
import Derived.Lib.Hide
import Derived.Lib.SliceRun
import Derived.Deep.RegionWith
import Derived.OwnWalk
import Derived.Laws.OwnMore
namespace Go.Proofs.Ytjcblmbndkacgaa
open Go.RowKit
set_option linter.unusedSimpArgs false
set_option linter.unusedVariables false

/-- No block of w from B on has changed. -/
def Ex (B : Nat) (w W : World) : Prop := w.heap.size ≤ W.heap.size ∧ ∀ b, B ≤ b → b < w.heap.size → W.heap[b]? = w.heap[b]?
theorem Ex.refl (B : Nat) (w : World) : Ex B w w := ⟨Nat.le_refl _, fun _ _ _ => rfl⟩
theorem Ex.trans {B : Nat} {a b c : World} (h1 : Ex B a b) (h2 : Ex B b c) : Ex B a c := ⟨Nat.le_trans h1.1 h2.1, fun k hk hg => (h2.2 k hk (Nat.lt_of_lt_of_le hg h1.1)).trans (h1.2 k hk hg)⟩
theorem Ex.up {B B' : Nat} {a b : World} (h : Ex B a b) (hb : B ≤ B') : Ex B' a b := ⟨h.1, fun k hk hg => h.2 k (Nat.le_trans hb hk) hg⟩
theorem Ex.of {a b : World} (h : Below a.heap.size a b) (B : Nat) : Ex B a b := ⟨h.size, fun k _ hk => h.block k hk⟩
theorem Ex.alloc {B : Nat} {a b : World} (h : Ex B a b) (o : Obj) : Ex B a (b.alloc o) := h.trans ⟨by simp, fun k _ hk => Below.heap_alloc b o k hk⟩
theorem Ex.set {B g : Nat} {a b : World} (h : Ex B a b) (hg : g < B) (i : Nat) (v : Value) : Ex B a (b.setCell ⟨g, i, none⟩ v) := h.trans ⟨by simp [World.setCell], fun k hk _ => Below.heap_setCell b ⟨g, i, none⟩ v k (by simp; omega)⟩
theorem Ex.grown {B : Nat} {a b c : World} {row : Option Nat} (h : Ex B a b) (hg : b.grownBy c row) (hr : ∀ k, row = some k → k < B) : Ex B a c := h.trans ⟨hg.size, fun k hk hl => hg.block k hl (fun e => by have := hr k e.symm; omega)⟩
theorem Ex.cell {B b o : Nat} {w W : World} {v : Value} (h : Ex B w W) (hb : B ≤ b) (hc : w.cell? ⟨b, o, none⟩ = some v) : W.cell? ⟨b, o, none⟩ = some v :=
  (World.cell?_of_block (a := ⟨b, o, none⟩) (h.2 b hb (World.block_lt_of_cell? _ _ hc))).trans hc
theorem Ex.own {B B2 R : Nat} {w W : World} {e : TypeId} {sz n c m : Nat} {xs : List Value} (h : Ex B w W) (hb : B ≤ R) (ho : w.ownsRow B2 e sz (.slice (some ⟨R, 0, none⟩) n c) m xs) : W.ownsRow B2 e sz (.slice (some ⟨R, 0, none⟩) n c) m xs := by
  refine ⟨ho.1, ?_⟩
  rcases ho.2 with hn | ⟨g, cap, cur, hv, h1, hg, rest⟩
  · exact .inl hn
  · refine .inr ⟨g, cap, cur, hv, h1, ?_, rest⟩
    simp only [Value.slice.injEq, Option.some.injEq, Addr.mk.injEq] at hv
    obtain ⟨⟨rfl, _⟩, _⟩ := hv
    rw [h.2 R hb (Array.getElem?_eq_some_iff.1 hg).1]
    exact hg
def QB (t : Bool) (W : World) (e : Ending) (w' : World) : Prop := e = .returned (.bool t) ∧ Below W.heap.size W w'
/-- In w and in whatever keeps its blocks from B on, the answer at the binding's data d is t. -/
def BH (B : Nat) (w : World) (d : Value) (t : Bool) : Prop := ∀ W, Ex B w W → Calls Try.prog 31 #[.agg #[d, .int .i32 0]] W (QB t W)
theorem BH.ex {B : Nat} {w w' : World} {d : Value} {t : Bool} (h : BH B w d t) (he : Ex B w w') : BH B w' d t := fun W hW => h W (he.trans hW)
theorem BH.low {B B' : Nat} {w : World} {d : Value} {t : Bool} (h : BH B w d t) (hb : B' ≤ B) : BH B' w d t := fun W hW => h W (hW.up hb)
def IsD (v : Value) : Prop := ∃ t b, v = .iface t (.pointer (some ⟨b, 0, none⟩))
def anyB (t : Nat → Bool) (n : Nat) : Bool := (List.range n).any t
theorem anyB_no {t : Nat → Bool} {n : Nat} (h : ∀ j, j < n → t j = false) : anyB t n = false := by
  simp only [anyB, List.any_eq_false, List.mem_range]
  intro j hj
  simp [h j hj]
theorem anyB_yes {t : Nat → Bool} {n j : Nat} (hj : j < n) (h : t j = true) : anyB t n = true := by
  simp only [anyB, List.any_eq_true, List.mem_range]
  exact ⟨j, hj, h⟩
set_option maxRecDepth 100000 in
set_option maxHeartbeats 1000000 in
theorem bhId (B b : Nat) (w : World) : BH B w (.iface 83 (.pointer (some ⟨b, 0, none⟩))) false := by
  intro W hW
  go_enter Try.func31, Try.ntmps31
  go_wp2_with fail
  go_ret
  exact ⟨rfl, (by repeat (first | with_reducible exact Below.refl _ _ | (with_reducible refine Below.drew ?_) | (with_reducible refine Below.alloc ?_ (by simp; try omega) _) | (with_reducible refine Below.setCell ?_ (by simp; try omega) _)))⟩
set_option maxRecDepth 100000 in
set_option maxHeartbeats 1000000 in
theorem bhMi (B b : Nat) (w : World) : BH B w (.iface 169 (.pointer (some ⟨b, 0, none⟩))) false := by
  intro W hW
  go_enter Try.func31, Try.ntmps31
  go_wp2_with fail
  go_ret
  exact ⟨rfl, (by repeat (first | with_reducible exact Below.refl _ _ | (with_reducible refine Below.drew ?_) | (with_reducible refine Below.alloc ?_ (by simp; try omega) _) | (with_reducible refine Below.setCell ?_ (by simp; try omega) _)))⟩
/-- The cells xs are j array items, the answer at the q-th is t q. -/
def ItA (B : Nat) (w : World) (xs : List Value) (j : Nat) (t : Nat → Bool) : Prop := xs.length = j * 5 ∧ ∀ q, q < j → ∃ d, IsD d ∧ BH B w d (t q) ∧ xs[q * 5]? = some (d) ∧ xs[q * 5 + 1]? = some (.int .i32 0) ∧ xs[q * 5 + 2]? = some (.nilIface) ∧ xs[q * 5 + 3]? = some (.int .i32 0) ∧ xs[q * 5 + 4]? = some (.int .i32 0)
/-- The cells xs are j object properties, the answer at the q-th is t q, s q says whether it is spread. -/
def ItO (B : Nat) (w : World) (xs : List Value) (j : Nat) (s t : Nat → Bool) : Prop := xs.length = j * 11 ∧ ∀ q, q < j → ∃ d, IsD d ∧ BH B w d (t q) ∧ xs[q * 11]? = some (.nilIface) ∧ xs[q * 11 + 1]? = some (.int .i32 0) ∧ xs[q * 11 + 2]? = some (d) ∧ xs[q * 11 + 3]? = some (.int .i32 0) ∧ xs[q * 11 + 4]? = some (.nilIface) ∧ xs[q * 11 + 5]? = some (.int .i32 0) ∧ xs[q * 11 + 6]? = some (.int .i32 0) ∧ xs[q * 11 + 7]? = some (.int .i32 0) ∧ xs[q * 11 + 8]? = some (.bool false) ∧ xs[q * 11 + 9]? = some (.bool (s q)) ∧ xs[q * 11 + 10]? = some (.bool false)
def LA (n : Nat) (t : Nat → Bool) (W : World) (i : Value) (wr : World) : Prop := ∃ k : Nat, k ≤ n ∧ i = .int .i64 k ∧ Hid (Below W.heap.size W wr) ∧ Hid (∀ j, j < k → t j = false)
theorem LA.next {t : Nat → Bool} {k : Nat} (h : ∀ j, j < k → t j = false) (hk : t k = false) : ∀ j, j < k + 1 → t j = false := fun j hj => by
  by_cases e : j = k
  · subst e; exact hk
  · exact h j (by omega)
set_option maxRecDepth 100000 in
set_option maxHeartbeats 4000000 in
theorem bhArr (B b R n c : Nat) (xs : List Value) (t : Nat → Bool) (B2 : Nat) (w : World) (hb : B ≤ b) (hR : B ≤ R) (h0 : w.cell? ⟨b, 0, none⟩ = some (.slice (some ⟨R, 0, none⟩) n c)) (ho : w.ownsRow B2 91 5 (.slice (some ⟨R, 0, none⟩) n c) n xs) (hi : ItA B w xs n t) (hn : n ≤ 1048576) :
    BH B w (.iface 92 (.pointer (some ⟨b, 0, none⟩))) (anyB t n) := by
  intro W hW
  have e0 := hW.cell hb h0
  have HO := Lib.hid (hW.own hR ho)
  have HI := Lib.hid hi
  have HW := Lib.hid hW
  have lb : b < W.heap.size := World.block_lt_of_cell? _ _ e0
  clear h0 ho hi hW
  go_enter Try.func31, Try.ntmps31
  go_wp2_with fail
  go_loopw [19] (fun i wr => LA n t W i wr) (fun i _ => n - (intOf i).toNat)
  case atStart => exact ⟨0, Nat.zero_le _, rfl, Lib.hid (by repeat (first | with_reducible exact Below.refl _ _ | (with_reducible refine Below.drew ?_) | (with_reducible refine Below.alloc ?_ (by simp; try omega) _) | (with_reducible refine Below.setCell ?_ (by simp; try omega) _))), Lib.hid (fun j hj => absurd hj (by omega))⟩
  case round =>
    obtain ⟨k, hk, rfl, HB, HA⟩ := hrel
    by_cases hlt : k < n
    · obtain ⟨d, ⟨ty, bb, rfl⟩, hbh, x0, x1, x2, x3, x4⟩ := HI.out.2 k hlt
      have HK := Lib.hid hbh
      clear hbh
      have c0 : wr.cell? ⟨R, k * 5, none⟩ = some (.iface ty (.pointer (some ⟨bb, 0, none⟩))) := kept HB.out (by rw [World.ownsRow.cellAt HO.out _ (by omega)]; exact x0)
      have c1 : wr.cell? ⟨R, k * 5 + 1, none⟩ = some (.int .i32 0) := kept HB.out (by rw [World.ownsRow.cellAt HO.out _ (by omega)]; exact x1)
      have c2 : wr.cell? ⟨R, k * 5 + 2, none⟩ = some (.nilIface) := kept HB.out (by rw [World.ownsRow.cellAt HO.out _ (by omega)]; exact x2)
      have c3 : wr.cell? ⟨R, k * 5 + 3, none⟩ = some (.int .i32 0) := kept HB.out (by rw [World.ownsRow.cellAt HO.out _ (by omega)]; exact x3)
      have c4 : wr.cell? ⟨R, k * 5 + 4, none⟩ = some (.int .i32 0) := kept HB.out (by rw [World.ownsRow.cellAt HO.out _ (by omega)]; exact x4)
      have lR : R < wr.heap.size := World.block_lt_of_cell? _ _ c0
      clear x0 x1 x2 x3 x4
      go_wp2_with fail
      refine (HK.out _ (HW.out.trans ((Ex.of HB.out _).alloc _))).mono ?_
      rintro e w1 ⟨rfl, hb1⟩
      have HB1 := Lib.hid (bel2 (HB.out.alloc HB.out.size _) hb1)
      clear hb1 HK HB
      cases ht : t k
      · have HA1 := Lib.hid (LA.next HA.out ht)
        clear ht HA
        go_wp2_with fail
        go_roundw
        case rel => exact ⟨k + 1, by omega, by go_num, HB1, HA1⟩
        case measure => simp [intOf]; omega
      · have HA1 := Lib.hid (anyB_yes hlt ht)
        clear ht HA
        go_wp2_with fail
        go_ret
        exact ⟨ret_bool HA1.out.symm, HB1.out⟩
    · have e : k = n := by omega
      subst e
      have HA1 := Lib.hid (anyB_no HA.out)
      clear HA
      go_wp2_with fail
      go_ret
      exact ⟨ret_bool HA1.out.symm, HB.out⟩
set_option maxRecDepth 100000 in
set_option maxHeartbeats 4000000 in
theorem bhObj (B b R n c : Nat) (xs : List Value) (s t : Nat → Bool) (B2 : Nat) (w : World) (hb : B ≤ b) (hR : B ≤ R) (h0 : w.cell? ⟨b, 0, none⟩ = some (.slice (some ⟨R, 0, none⟩) n c)) (ho : w.ownsRow B2 82 11 (.slice (some ⟨R, 0, none⟩) n c) n xs) (hi : ItO B w xs n s t) (hn : n ≤ 1048576) :
    BH B w (.iface 86 (.pointer (some ⟨b, 0, none⟩))) (anyB (fun q => s q || t q) n) := by
  intro W hW
  have e0 := hW.cell hb h0
  have HO := Lib.hid (hW.own hR ho)
  have HI := Lib.hid hi
  have HW := Lib.hid hW
  have lb : b < W.heap.size := World.block_lt_of_cell? _ _ e0
  clear h0 ho hi hW
  go_enter Try.func31, Try.ntmps31
  go_wp2_with fail
  go_loopw [35] (fun i wr => LA n (fun q => s q || t q) W i wr) (fun i _ => n - (intOf i).toNat)
  case atStart => exact ⟨0, Nat.zero_le _, rfl, Lib.hid (by repeat (first | with_reducible exact Below.refl _ _ | (with_reducible refine Below.drew ?_) | (with_reducible refine Below.alloc ?_ (by simp; try omega) _) | (with_reducible refine Below.setCell ?_ (by simp; try omega) _))), Lib.hid (fun j hj => absurd hj (by omega))⟩
  case round =>
    obtain ⟨k, hk, rfl, HB, HA⟩ := hrel
    by_cases hlt : k < n
    · obtain ⟨d, ⟨ty, bb, rfl⟩, hbh, x0, x1, x2, x3, x4, x5, x6, x7, x8, x9, x10⟩ := HI.out.2 k hlt
      have HK := Lib.hid hbh
      clear hbh
      have c0 : wr.cell? ⟨R, k * 11, none⟩ = some (.nilIface) := kept HB.out (by rw [World.ownsRow.cellAt HO.out _ (by omega)]; exact x0)
      have c1 : wr.cell? ⟨R, k * 11 + 1, none⟩ = some (.int .i32 0) := kept HB.out (by rw [World.ownsRow.cellAt HO.out _ (by omega)]; exact x1)
      have c2 : wr.cell? ⟨R, k * 11 + 2, none⟩ = some (.iface ty (.pointer (some ⟨bb, 0, none⟩))) := kept HB.out (by rw [World.ownsRow.cellAt HO.out _ (by omega)]; exact x2)
      have c3 : wr.cell? ⟨R, k * 11 + 3, none⟩ = some (.int .i32 0) := kept HB.out (by rw [World.ownsRow.cellAt HO.out _ (by omega)]; exact x3)
      have c4 : wr.cell? ⟨R, k * 11 + 4, none⟩ = some (.nilIface) := kept HB.out (by rw [World.ownsRow.cellAt HO.out _ (by omega)]; exact x4)
      have c5 : wr.cell? ⟨R, k * 11 + 5, none⟩ = some (.int .i32 0) := kept HB.out (by rw [World.ownsRow.cellAt HO.out _ (by omega)]; exact x5)
      have c6 : wr.cell? ⟨R, k * 11 + 6, none⟩ = some (.int .i32 0) := kept HB.out (by rw [World.ownsRow.cellAt HO.out _ (by omega)]; exact x6)
      have c7 : wr.cell? ⟨R, k * 11 + 7, none⟩ = some (.int .i32 0) := kept HB.out (by rw [World.ownsRow.cellAt HO.out _ (by omega)]; exact x7)
      have c8 : wr.cell? ⟨R, k * 11 + 8, none⟩ = some (.bool false) := kept HB.out (by rw [World.ownsRow.cellAt HO.out _ (by omega)]; exact x8)
      have c9 : wr.cell? ⟨R, k * 11 + 9, none⟩ = some (.bool (s k)) := kept HB.out (by rw [World.ownsRow.cellAt HO.out _ (by omega)]; exact x9)
      have c10 : wr.cell? ⟨R, k * 11 + 10, none⟩ = some (.bool false) := kept HB.out (by rw [World.ownsRow.cellAt HO.out _ (by omega)]; exact x10)
      have lR : R < wr.heap.size := World.block_lt_of_cell? _ _ c0
      clear x0 x1 x2 x3 x4 x5 x6 x7 x8 x9 x10
      cases hs : s k
      · rw [hs] at c9
        go_wp2_with fail
        refine (HK.out _ (HW.out.trans ((Ex.of HB.out _).alloc _))).mono ?_
        rintro e w1 ⟨rfl, hb1⟩
        have HB1 := Lib.hid (bel2 (HB.out.alloc HB.out.size _) hb1)
        clear hb1 HK HB
        cases ht : t k
        · have HA1 := Lib.hid (LA.next HA.out (by simp [hs, ht]))
          clear ht hs HA
          go_wp2_with fail
          go_roundw
          case rel => exact ⟨k + 1, by omega, by go_num, HB1, HA1⟩
          case measure => simp [intOf]; omega
        · have HA1 := Lib.hid (anyB_yes (t := fun q => s q || t q) hlt (by simp [ht]))
          clear ht hs HA
          go_wp2_with fail
          go_ret
          exact ⟨ret_bool HA1.out.symm, HB1.out⟩
      · rw [hs] at c9
        have HA1 := Lib.hid (anyB_yes (t := fun q => s q || t q) hlt (by simp [hs]))
        clear hs HA
        go_wp2_with fail
        go_ret
        exact ⟨ret_bool HA1.out.symm, (HB.out.alloc HB.out.size _)⟩
    · have e : k = n := by omega
      subst e
      have HA1 := Lib.hid (anyB_no HA.out)
      clear HA
      go_wp2_with fail
      go_ret
      exact ⟨ret_bool HA1.out.symm, HB.out⟩
end Go.Proofs.Ytjcblmbndkacgaa
