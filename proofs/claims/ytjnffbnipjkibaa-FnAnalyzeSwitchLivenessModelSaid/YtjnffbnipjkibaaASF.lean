/- Proved here: the contract of analyzeSwitchCasesForLiveness. Conditions: the switch's cells, as stated. -/
import Derived.Test.YtjnffbnipjkibaaASE
import Derived.WalkKit
import Derived.WalkSpells
import Derived.WalkLawsBesides
import Derived.Lib.Hide
import Derived.Lib.SliceRun
import Derived.Deep.RegionWith
import Derived.OwnWalk
import Derived.Laws.OwnMore
import Derived.Deep.AppendLies
import Derived.Deep.RegionHeld3
import Derived.Deep.DeepCutAuto
import Derived.WalkMore
namespace Go.Proofs.Ytjnffbnipjkibaa
open Go.RowKit
set_option linter.unusedSimpArgs false
set_option linter.unusedVariables false

theorem info76 : (Try.prog.info? 76).map (fun i => (i.zero, i.size, i.bytes)) = some (some (.agg #[.int .i8 0, .bool false]), 2, 2) := by kernel_rfl
/-- The cells ys are j statuses: st q with whether case q can fall through. -/
def Ys (ys : List Value) (j : Nat) (st : Nat → Int) (f : Nat → Bool) : Prop := ys.length = j * 2 ∧ ∀ q, q < j → ys[q * 2]? = some (.int .i8 (st q)) ∧ ys[q * 2 + 1]? = some (.bool (f q))
theorem Ys.snoc {ys : List Value} {j : Nat} {st : Nat → Int} {f : Nat → Bool} (h : Ys ys j st f) (x : Int) (b : Bool) (hx : x = st j) (hb : b = f j) : Ys (ys ++ [.int .i8 x, .bool b]) (j + 1) st f := by
  subst hx; subst hb
  refine ⟨by simp [h.1]; omega, fun q hq => ?_⟩
  by_cases e : q = j
  · subst e
    have l := h.1
    refine ⟨?_, ?_⟩ <;> (rw [List.getElem?_append_right (by omega), l]; simp)
  · obtain ⟨h1, h2⟩ := h.2 q (by omega)
    have l := h.1
    refine ⟨?_, ?_⟩ <;> (rw [List.getElem?_append_left (by omega)]; assumption)
theorem Ys.congr {ys : List Value} {j : Nat} {st st' : Nat → Int} {f : Nat → Bool} (h : Ys ys j st f) (he : ∀ q, q < j → st' q = st q) : Ys ys j st' f := ⟨h.1, fun q hq => by rw [he q hq]; exact h.2 q hq⟩
theorem Ys.put {ys : List Value} {j k : Nat} {st : Nat → Int} {f : Nat → Bool} (h : Ys ys j st f) (x : Int) (hk : k < j) : Ys (ys.set (k * 2) (.int .i8 x)) j (fun q => if q = k then x else st q) f := by
  have l := h.1
  refine ⟨by simp [h.1], fun q hq => ?_⟩
  obtain ⟨h1, h2⟩ := h.2 q hq
  by_cases e : q = k
  · subst e
    exact ⟨by rw [List.getElem?_set_self (by omega)]; simp, by rw [List.getElem?_set_ne (by omega)]; exact h2⟩
  · exact ⟨by rw [List.getElem?_set_ne (by omega)]; simp only [e, if_false]; exact h1, by rw [List.getElem?_set_ne (by omega)]; exact h2⟩
def CU (n : Nat) (ti : Bool) (tv : Int) (ks vs : List Int) (m : Nat) (bs : List Int) (p R : Nat) (W : World) (s3 s5 : Value) (wx : World) : Prop := ∃ (ys : List Value) (M : Int), s3 = .slice (some ⟨R, 0, none⟩) n n ∧ s5 = .int .i8 M ∧ (M = -1 ∨ M = 0 ∨ M = 1) ∧ Hid (wx.ownsRow R 76 2 (.slice (some ⟨R, 0, none⟩) n n) n ys) ∧ Hid (Ys ys n (pz ti tv ks vs m n) (fl bs p)) ∧ Hid (Below R W wx) ∧ R + 1 ≤ wx.heap.size
def A2 (n : Nat) (ti : Bool) (tv : Int) (ks vs : List Int) (m : Nat) (bs : List Int) (p R : Nat) (W : World) (i : Value) (wr : World) : Prop := ∃ (q : Nat) (ys : List Value), q ≤ n ∧ i = .int .i64 q ∧ Hid (wr.ownsRow R 76 2 (.slice (some ⟨R, 0, none⟩) n n) n ys) ∧ Hid (Ys ys n (at_ ti tv ks vs m bs p n q) (fl bs p)) ∧ Hid (Below R W wr) ∧ R + 1 ≤ wr.heap.size
def A3 (n : Nat) (ti : Bool) (tv : Int) (ks vs : List Int) (m : Nat) (bs : List Int) (p R q : Nat) (W : World) (i : Value) (wr : World) : Prop := ∃ (t : Nat) (ys : List Value), q ≤ t ∧ t < n ∧ i = .int .i64 ((t : Int) + 1) ∧ Hid (wr.ownsRow R 76 2 (.slice (some ⟨R, 0, none⟩) n n) n ys) ∧ Hid (Ys ys n (fun r => if q < r ∧ r < t + 1 then 0 else at_ ti tv ks vs m bs p n q r) (fl bs p)) ∧ Hid (∀ u, q ≤ u → u + 1 < t + 1 → fl bs p u = true) ∧ Hid (Below R W wr) ∧ R + 1 ≤ wr.heap.size
theorem at_zero (ti : Bool) (tv : Int) (ks vs : List Int) (m : Nat) (bs : List Int) (p n q : Nat) : at_ ti tv ks vs m bs p n 0 q = pz ti tv ks vs m n q := by
  unfold at_
  rw [if_neg (by omega), if_neg (by rintro ⟨r, h, _⟩; omega)]
theorem a3_step (ti : Bool) (tv : Int) (ks vs : List Int) (m : Nat) (bs : List Int) (p : Nat) {n q t r : Nat} (h : q ≤ t) : (if q < r ∧ r < t + 1 + 1 then 0 else at_ ti tv ks vs m bs p n q r) = if r = t + 1 then 0 else (if q < r ∧ r < t + 1 then 0 else at_ ti tv ks vs m bs p n q r) := by
  by_cases e : r = t + 1
  · rw [if_pos ⟨by omega, by omega⟩, if_pos e]
  · rw [if_neg e]
    by_cases e2 : q < r ∧ r < t + 1
    · rw [if_pos e2, if_pos ⟨e2.1, by omega⟩]
    · rw [if_neg e2, if_neg (by omega)]
theorem a3_end (ti : Bool) (tv : Int) (ks vs : List Int) (m : Nat) (bs : List Int) (p : Nat) {n q t r : Nat} (hd : fn ti tv ks vs m bs p n q ≠ -1) (h : q ≤ t) (hf : ∀ u, q ≤ u → u + 1 < t + 1 → fl bs p u = true) (hs : n ≤ t + 1 ∨ fl bs p t = false) (hr : r < n) : at_ ti tv ks vs m bs p n (q + 1) r = if q < r ∧ r < t + 1 then 0 else at_ ti tv ks vs m bs p n q r := by
  by_cases e : q < r
  · rw [at_live ti tv ks vs m bs p n q (t + 1) r hd (by omega) hf (hs.elim (fun h => .inl (by omega)) (fun h => .inr (by simpa using h))) e]
    by_cases e2 : r < t + 1
    · rw [if_pos e2, if_pos ⟨e, e2⟩]
    · rw [if_neg e2, if_neg (by omega)]
  · rw [if_neg (by omega)]
    by_cases e2 : r = q
    · subst e2
      rw [at_self]
      unfold at_
      rw [if_pos (by omega)]
    · unfold at_
      rw [if_pos (by omega), if_pos (by omega)]
def A1 (n : Nat) (ti : Bool) (tv : Int) (ks vs : List Int) (m : Nat) (bs : List Int) (p R : Nat) (W : World) (s d M i : Value) (wr : World) : Prop := ∃ (j : Nat) (ys : List Value), j ≤ n ∧ s = .slice (some ⟨R, 0, none⟩) j n ∧ d = .int .i64 (df ks j) ∧ M = .int .i8 (mx ti tv ks vs m j) ∧ i = .int .i64 j ∧ Hid (wr.ownsRow R 76 2 s j ys) ∧ Hid (Ys ys j (pr ti tv ks vs m) (fl bs p)) ∧ Hid (Below R W wr) ∧ R + 1 ≤ wr.heap.size
def AnP (n : Nat) (ti : Bool) (tv : Int) (ks vs : List Int) (m : Nat) (bs : List Int) (p : Nat) (w : World) (e : Ending) (w' : World) : Prop := ∃ R ys, e = .returned (.slice (some ⟨R, 0, none⟩) n n) ∧ w'.ownsRow R 76 2 (.slice (some ⟨R, 0, none⟩) n n) n ys ∧ Ys ys n (fn ti tv ks vs m bs p n) (fl bs p) ∧ Below w.heap.size w w'
/-- What CheckEqualityIfNoSideEffects answers at the test and the case. -/
theorem ceq {B : Nat} {w : World} {ti : Bool} {tv k x : Int} {tvl v : Value} (hT : Tst w ti tv tvl) (hE : Ev B w k x v) (hk : k ≠ 0) (htv : -128 ≤ tv ∧ tv ≤ 127) (hx : -128 ≤ x ∧ x ≤ 127) :
    ∃ eq ok, ((ok = false ∧ (ti = true ∨ k = 2)) ∨ (ok = true ∧ ti = false ∧ k = 1 ∧ eq = decide (tv = x))) ∧ ∀ W, Below w.heap.size w W → Calls Try.prog 52 #[tvl, v, .int .u8 1] W (fun e w' => e = .returned (.tuple #[.bool eq, .bool ok]) ∧ Below W.heap.size W w') := by
  obtain ⟨b1, ⟨rfl, rfl⟩ | ⟨rfl, rfl, h1⟩⟩ := hT
  · rcases hE with ⟨h, _⟩ | ⟨b2, _, _, ⟨_, rfl, _⟩ | ⟨_, rfl⟩⟩
    · exact absurd h hk
    · exact ⟨false, false, .inl ⟨rfl, .inl rfl⟩, fun W _ => ceqI 101 b1 b2 W (.inl rfl)⟩
    · exact ⟨false, false, .inl ⟨rfl, .inl rfl⟩, fun W _ => ceqI 95 b1 b2 W (.inr rfl)⟩
  · rcases hE with ⟨h, _⟩ | ⟨b2, _, _, ⟨h2, rfl, h3⟩ | ⟨h2, rfl⟩⟩
    · exact absurd h hk
    · exact ⟨decide (tv = x), true, .inr ⟨rfl, rfl, h2, rfl⟩, fun W hb => ceqNN b1 b2 tv x W htv hx (kept hb h1) (kept hb h3)⟩
    · exact ⟨false, false, .inl ⟨rfl, .inr h2⟩, fun W _ => ceqNI b1 b2 W⟩
set_option maxRecDepth 100000 in
set_option maxHeartbeats 16000000 in
theorem analyze (n : Nat) (ti : Bool) (tv : Int) (ks vs : List Int) (m : Nat) (bs : List Int) (p sb RC : Nat) (tvl : Value) (xs : List Value) (w : World) (hT : Tst w ti tv tvl) (c0 : w.cell? ⟨sb, 0, none⟩ = some tvl) (c1 : w.cell? ⟨sb, 1, none⟩ = some (.int .i32 0)) (c2 : w.cell? ⟨sb, 2, none⟩ = some (.slice (some ⟨RC, 0, none⟩) n n)) (ho : w.ownsRow RC 68 4 (.slice (some ⟨RC, 0, none⟩) n n) n xs) (hc : Cs (RC + 1) w xs n ks vs m bs p) (hn : n ≤ 4096) (htv : -128 ≤ tv ∧ tv ≤ 127) (hv : ∀ q, -128 ≤ vz vs m q ∧ vz vs m q ≤ 127) : Calls Try.prog 32 #[.pointer (some ⟨sb, 0, none⟩)] w (AnP n ti tv ks vs m bs p w) := by
  obtain ⟨i0, hi0, hz0, hz1, hz2⟩ := info_parts info76
  have I := Lib.hid hi0
  have I0 := Lib.hid hz0
  have I1 := Lib.hid hz1
  have I2 := Lib.hid hz2
  have HT := Lib.hid hT
  have HO := Lib.hid ho
  have HC := Lib.hid hc
  have lsb : sb < w.heap.size := World.block_lt_of_cell? _ _ c0
  clear hi0 hz0 hz1 hz2 hT ho hc
  obtain ⟨R, hR⟩ : ∃ R, R = w.heap.size := ⟨_, rfl⟩
  go_enter Try.func32, Try.ntmps32
  go_wp2_with (with_reducible refine wpList_make_own _ (o := ⟨some 20, _, _, _, _, _⟩) rfl _ _ 72 rfl w.heap.size 76 i0 _ 2 Try.underlying72 I.out I0.out I1.out .i64 .i64 _ n rfl rfl ?e1 ?e2 ?e3 (Nat.le_refl _) ?_)
  case e1 => rfl
  case e2 => rw [I2.out]; omega
  case e3 => unfold maxLen; omega
  intro w1 hown hgr
  have d0 : w1.cell? ⟨sb, 0, none⟩ = some tvl := hgr.cell c0 (by simp)
  have d1 : w1.cell? ⟨sb, 1, none⟩ = some (.int .i32 0) := hgr.cell c1 (by simp)
  have d2 : w1.cell? ⟨sb, 2, none⟩ = some (.slice (some ⟨RC, 0, none⟩) n n) := hgr.cell c2 (by simp)
  have lsb1 : sb < w1.heap.size := World.block_lt_of_cell? _ _ d0
  have BW1 := Lib.hid (show Below w.heap.size w w1 from (Below.refl _ _).grown hgr (Nat.le_refl _) (fun q hq => by cases hq))
  have hw1 := (World.ownsRow.lt hown w.heap.size rfl).2
  have HOW := Lib.hid hown
  clear hown hgr c0 c1 c2
  rw [← hR] at HOW hw1
  rw [← hR]
  have HRR := Lib.hid hR
  clear hR
  go_wp2_with fail
  go_loopw [3, 4, 5, 26] (fun s d M i wr => A1 n ti tv ks vs m bs p R w1 s d M i wr) (fun s d M i _ => n - (intOf i).toNat)
  case atStart => exact ⟨0, [], by omega, rfl, rfl, rfl, rfl, HOW, Lib.hid ⟨rfl, fun q hq => absurd hq (by omega)⟩, Lib.hid (Below.refl _ _), hw1⟩
  case round =>
    obtain ⟨j, ys, hj, rfl, rfl, rfl, rfl, HW, HX, HL, hL⟩ := hrel
    clear HOW
    have BWR := Lib.hid (show Below w.heap.size w wr from BW1.out.trans (HRR.out ▸ HL.out))
    by_cases hjn : j < n
    · obtain ⟨v, ao, l, cc, dd, hE, hB, x0, x1, x2, x3⟩ := HC.out.2 j hjn
      have k0 : wr.cell? ⟨RC, j * 4, none⟩ = some v := kept BWR.out (by rw [World.ownsRow.cellAt HO.out _ (by omega)]; exact x0)
      have k1 : wr.cell? ⟨RC, j * 4 + 1, none⟩ = some (.int .i32 0) := kept BWR.out (by rw [World.ownsRow.cellAt HO.out _ (by omega)]; exact x1)
      have k2 : wr.cell? ⟨RC, j * 4 + 2, none⟩ = some (.slice ao l cc) := kept BWR.out (by rw [World.ownsRow.cellAt HO.out _ (by omega)]; exact x2)
      have k3 : wr.cell? ⟨RC, j * 4 + 3, none⟩ = some (.int .i32 0) := kept BWR.out (by rw [World.ownsRow.cellAt HO.out _ (by omega)]; exact x3)
      have lRC : RC < wr.heap.size := World.block_lt_of_cell? _ _ k0
      have BR1 := Lib.hid (show Below R w1 wr from HL.out)
      have f0 : wr.cell? ⟨sb, 0, none⟩ = some tvl := (HL.out.cell (p := ⟨sb, 0, none⟩) (by simp; have := HRR.out; omega)).trans d0
      have f1 : wr.cell? ⟨sb, 1, none⟩ = some (.int .i32 0) := (HL.out.cell (p := ⟨sb, 1, none⟩) (by simp; have := HRR.out; omega)).trans d1
      have f2 : wr.cell? ⟨sb, 2, none⟩ = some (.slice (some ⟨RC, 0, none⟩) n n) := (HL.out.cell (p := ⟨sb, 2, none⟩) (by simp; have := HRR.out; omega)).trans d2
      have lsr : sb < wr.heap.size := World.block_lt_of_cell? _ _ f0
      have HF := Lib.hid (fun (W : World) (hb : Below w.heap.size w W) => fallT dd (.slice ao l cc) (fl bs p j) W ((hB.low (Nat.zero_le _)).ex (Ex.of hb _)))
      have j0 : (0 : Int) ≤ (j : Int) := Int.natCast_nonneg _
      have j1 : (j : Int) < (n : Int) := by omega
      clear x0 x1 x2 x3 hB d0 d1 d2
      by_cases hk : kd ks j = 0
      · obtain rfl : v = .nilIface := by
          rcases hE with ⟨_, h⟩ | ⟨_, _, _, ⟨h, _⟩ | ⟨h, _⟩⟩
          · exact h
          · omega
          · omega
        clear hE
        rcases mx_range ti tv ks vs m j with hM | hM | hM
        · have E2 := Lib.hid (show ∀ (q : Nat) (u : Value), ([.int .i8 (-1), .bool (fl bs p j)] : List Value)[q]? = some u → ((wr.alloc (.cells #[.nilIface, .int .i32 0, .slice ao l cc, .int .i32 0] 68)).alloc (.cells #[.int .i8 (-1), .bool (fl bs p j)] 76)).cell? ((⟨wr.heap.size + 1, 0, none⟩ : Addr).add q) = some u from by have hh := heap_alloc_new (wr.alloc (.cells #[.nilIface, .int .i32 0, .slice ao l cc, .int .i32 0] 68)) (.cells #[.int .i8 (-1), .bool (fl bs p j)] 76); rw [show (wr.alloc (.cells #[.nilIface, .int .i32 0, .slice ao l cc, .int .i32 0] 68)).heap.size = wr.heap.size + 1 from by simp] at hh; exact World.news_of_block (cs := #[.int .i8 (-1), .bool (fl bs p j)]) (t := 76) (fr := (0, 0)) hh)
          have E3 := Lib.hid (show ∀ u ∈ ([.int .i8 (-1), .bool (fl bs p j)] : List Value), u.oneCell' = true from by simp [Value.oneCell'])
          have E4 := Lib.hid (show j + 1 ≤ n by omega)
          go_wp2_with (first | (go_at_call 53; refine (HF.out _ (by repeat (first | with_reducible exact BWR.out | (with_reducible refine Below.drew ?_) | (with_reducible refine Below.alloc ?_ (by have := Below.size BWR.out; simp; try omega) _)))).mono ?_; rintro e w' ⟨rfl, rfl⟩) | (with_reducible refine wpList_append_fits _ (o := ⟨some 67, _, _, _, _, _⟩) rfl _ _ 72 rfl R 76 i0 2 Try.underlying72 I.out I1.out R j n ys rfl (World.ownsRow.alloc (World.ownsRow.alloc HW.out _) _) ⟨wr.heap.size + 1, 0, none⟩ 1 1 [.int .i8 (-1), .bool (fl bs p j)] rfl rfl E2.out E3.out E4.out ?_))
          intro w6 hown6 hgr6
          have HO6 := Lib.hid hown6
          have HG6 := Lib.hid hgr6
          clear hown6 hgr6
          go_wp2_with fail
          go_roundw
          case measure => simp [intOf]; omega
          case rel =>
            have hgr := HG6.out
            have hsz := hgr.size
            simp at hsz
            exact ⟨j + 1, _, by omega, rfl, by simp [df, hk], by simp [mx, sOf, hM, hk], by go_num, HO6, Lib.hid (HX.out.snoc (-1) _ (by simp [pr, sOf, hM, hk]) rfl), Lib.hid (((HL.out.alloc (by omega) _).alloc (by simp; omega) _).grown hgr (by simp; omega) (fun q hq => by simp only [Option.some.injEq] at hq; omega)), by omega⟩
        · have E2 := Lib.hid (show ∀ (q : Nat) (u : Value), ([.int .i8 (-1), .bool (fl bs p j)] : List Value)[q]? = some u → ((wr.alloc (.cells #[.nilIface, .int .i32 0, .slice ao l cc, .int .i32 0] 68)).alloc (.cells #[.int .i8 (-1), .bool (fl bs p j)] 76)).cell? ((⟨wr.heap.size + 1, 0, none⟩ : Addr).add q) = some u from by have hh := heap_alloc_new (wr.alloc (.cells #[.nilIface, .int .i32 0, .slice ao l cc, .int .i32 0] 68)) (.cells #[.int .i8 (-1), .bool (fl bs p j)] 76); rw [show (wr.alloc (.cells #[.nilIface, .int .i32 0, .slice ao l cc, .int .i32 0] 68)).heap.size = wr.heap.size + 1 from by simp] at hh; exact World.news_of_block (cs := #[.int .i8 (-1), .bool (fl bs p j)]) (t := 76) (fr := (0, 0)) hh)
          have E3 := Lib.hid (show ∀ u ∈ ([.int .i8 (-1), .bool (fl bs p j)] : List Value), u.oneCell' = true from by simp [Value.oneCell'])
          have E4 := Lib.hid (show j + 1 ≤ n by omega)
          go_wp2_with (first | (go_at_call 53; refine (HF.out _ (by repeat (first | with_reducible exact BWR.out | (with_reducible refine Below.drew ?_) | (with_reducible refine Below.alloc ?_ (by have := Below.size BWR.out; simp; try omega) _)))).mono ?_; rintro e w' ⟨rfl, rfl⟩) | (with_reducible refine wpList_append_fits _ (o := ⟨some 67, _, _, _, _, _⟩) rfl _ _ 72 rfl R 76 i0 2 Try.underlying72 I.out I1.out R j n ys rfl (World.ownsRow.alloc (World.ownsRow.alloc HW.out _) _) ⟨wr.heap.size + 1, 0, none⟩ 1 1 [.int .i8 (-1), .bool (fl bs p j)] rfl rfl E2.out E3.out E4.out ?_))
          intro w6 hown6 hgr6
          have HO6 := Lib.hid hown6
          have HG6 := Lib.hid hgr6
          clear hown6 hgr6
          go_wp2_with fail
          go_roundw
          case measure => simp [intOf]; omega
          case rel =>
            have hgr := HG6.out
            have hsz := hgr.size
            simp at hsz
            exact ⟨j + 1, _, by omega, rfl, by simp [df, hk], by simp [mx, sOf, hM, hk], by go_num, HO6, Lib.hid (HX.out.snoc (-1) _ (by simp [pr, sOf, hM, hk]) rfl), Lib.hid (((HL.out.alloc (by omega) _).alloc (by simp; omega) _).grown hgr (by simp; omega) (fun q hq => by simp only [Option.some.injEq] at hq; omega)), by omega⟩
        · have E2 := Lib.hid (show ∀ (q : Nat) (u : Value), ([.int .i8 (-1), .bool (fl bs p j)] : List Value)[q]? = some u → ((wr.alloc (.cells #[.nilIface, .int .i32 0, .slice ao l cc, .int .i32 0] 68)).alloc (.cells #[.int .i8 (-1), .bool (fl bs p j)] 76)).cell? ((⟨wr.heap.size + 1, 0, none⟩ : Addr).add q) = some u from by have hh := heap_alloc_new (wr.alloc (.cells #[.nilIface, .int .i32 0, .slice ao l cc, .int .i32 0] 68)) (.cells #[.int .i8 (-1), .bool (fl bs p j)] 76); rw [show (wr.alloc (.cells #[.nilIface, .int .i32 0, .slice ao l cc, .int .i32 0] 68)).heap.size = wr.heap.size + 1 from by simp] at hh; exact World.news_of_block (cs := #[.int .i8 (-1), .bool (fl bs p j)]) (t := 76) (fr := (0, 0)) hh)
          have E3 := Lib.hid (show ∀ u ∈ ([.int .i8 (-1), .bool (fl bs p j)] : List Value), u.oneCell' = true from by simp [Value.oneCell'])
          have E4 := Lib.hid (show j + 1 ≤ n by omega)
          go_wp2_with (first | (go_at_call 53; refine (HF.out _ (by repeat (first | with_reducible exact BWR.out | (with_reducible refine Below.drew ?_) | (with_reducible refine Below.alloc ?_ (by have := Below.size BWR.out; simp; try omega) _)))).mono ?_; rintro e w' ⟨rfl, rfl⟩) | (with_reducible refine wpList_append_fits _ (o := ⟨some 67, _, _, _, _, _⟩) rfl _ _ 72 rfl R 76 i0 2 Try.underlying72 I.out I1.out R j n ys rfl (World.ownsRow.alloc (World.ownsRow.alloc HW.out _) _) ⟨wr.heap.size + 1, 0, none⟩ 1 1 [.int .i8 (-1), .bool (fl bs p j)] rfl rfl E2.out E3.out E4.out ?_))
          intro w6 hown6 hgr6
          have HO6 := Lib.hid hown6
          have HG6 := Lib.hid hgr6
          clear hown6 hgr6
          go_wp2_with fail
          go_roundw
          case measure => simp [intOf]; omega
          case rel =>
            have hgr := HG6.out
            have hsz := hgr.size
            simp at hsz
            exact ⟨j + 1, _, by omega, rfl, by simp [df, hk], by simp [mx, sOf, hM, hk], by go_num, HO6, Lib.hid (HX.out.snoc (-1) _ (by simp [pr, sOf, hM, hk]) rfl), Lib.hid (((HL.out.alloc (by omega) _).alloc (by simp; omega) _).grown hgr (by simp; omega) (fun q hq => by simp only [Option.some.injEq] at hq; omega)), by omega⟩
      · have hQ := ceq HT.out hE hk htv (hv j)
        obtain ⟨t, b, rfl⟩ : ∃ t b, v = .iface t (.pointer (some ⟨b, 0, none⟩)) := by
          rcases hE with ⟨h, _⟩ | ⟨b, _, _, ⟨_, h, _⟩ | ⟨_, h⟩⟩
          · exact absurd h hk
          · exact ⟨_, b, h⟩
          · exact ⟨_, b, h⟩
        obtain ⟨eq, ok, hst, hq⟩ := hQ
        have HQ := Lib.hid hq
        clear hE hq
        rcases mx_range ti tv ks vs m j with hM | hM | hM
        · go_wp2_with fail
          obtain ⟨W4, hW4⟩ : ∃ W, W = wr.alloc (.cells #[.iface t (.pointer (some ⟨b, 0, none⟩)), .int .i32 0, .slice ao l cc, .int .i32 0] 68) := ⟨_, rfl⟩
          rw [← hW4]
          have B4 : Below wr.heap.size wr W4 := by rw [hW4]; exact (Below.refl _ _).alloc (Nat.le_refl _) _
          have y0 : W4.cell? ⟨wr.heap.size, 0, none⟩ = some (.iface t (.pointer (some ⟨b, 0, none⟩))) := by rw [hW4]; simp [go_sem]
          have y2 : W4.cell? ⟨wr.heap.size, 2, none⟩ = some (.slice ao l cc) := by rw [hW4]; simp [go_sem]
          have u0 := kept B4 f0
          have z4 : wr.heap.size < W4.heap.size := World.block_lt_of_cell? _ _ y0
          have lsb4 : sb < W4.heap.size := World.block_lt_of_cell? _ _ u0
          have BW4 := Lib.hid (BWR.out.trans (B4.mono BWR.out.size))
          have OWN4 := Lib.hid ((Ex.of B4 R).own (Nat.le_refl _) HW.out)
          have HQ4 := Lib.hid (fun (W : World) (hb : Below W4.heap.size W4 W) => HQ.out W (BW4.out.trans (hb.mono BW4.out.size)))
          have HL4 := Lib.hid (show Below R w1 W4 from HL.out.trans (B4.mono (by omega)))
          clear hW4 B4 k0 k1 k2 k3 f0 f1 f2 HQ HW
          go_region_held3 (fun w' => w'.cell? ⟨sb, 0, none⟩ = some tvl ∧ w'.cell? ⟨wr.heap.size, 0, none⟩ = some (.iface t (.pointer (some ⟨b, 0, none⟩)))) (repeat' (first | (refine And.intro ?_ ?_) | assumption | apply kDrew)) (first
            | (go_at_call 52; (with_reducible refine Calls.mono (HQ4.out _ ?hb) ?_); (case hb => with_reducible first | exact Below.refl _ _ | exact (Below.refl _ _).drew); rintro e w5 ⟨rfl, hb5⟩; have y0' := kept hb5 y0; have u0' := kept hb5 u0))
          all_goals
            have y2' : w5.cell? ⟨wr.heap.size, 2, none⟩ = some (.slice ao l cc) := kept hb5 y2
            have z5 : wr.heap.size < w5.heap.size := World.block_lt_of_cell? _ _ y2'
            have BW5 := Lib.hid (BW4.out.drew.trans (hb5.mono BW4.out.size))
            have OWN5 := Lib.hid ((Ex.of hb5 R).own (Nat.le_refl _) (World.ownsRow.drew OWN4.out))
            have hs5 := hb5.size
            have HL5 := Lib.hid (show Below R w1 w5 from HL4.out.drew.trans (hb5.mono (by have := HL4.out.size; simp; omega)))
            clear hb5 y0 y2 u0 z4 lsb4 BW4 OWN4 HQ4 HL4 y0' u0'
            rcases hst with ⟨rfl, h2⟩ | ⟨rfl, h1, h2, h3⟩
            · have FX : (ti = true ∨ kd ks j = 2) := h2
              have E2 := Lib.hid (show ∀ (q : Nat) (u : Value), ([.int .i8 (0), .bool (fl bs p j)] : List Value)[q]? = some u → ((w5).alloc (.cells #[.int .i8 (0), .bool (fl bs p j)] 76)).cell? ((⟨w5.heap.size, 0, none⟩ : Addr).add q) = some u from by have hh := heap_alloc_new (w5) (.cells #[.int .i8 (0), .bool (fl bs p j)] 76); exact World.news_of_block (cs := #[.int .i8 (0), .bool (fl bs p j)]) (t := 76) (fr := (0, 0)) hh)
              have E3 := Lib.hid (show ∀ u ∈ ([.int .i8 (0), .bool (fl bs p j)] : List Value), u.oneCell' = true from by simp [Value.oneCell'])
              have E4 := Lib.hid (show j + 1 ≤ n by omega)
              go_wp2_with (first | (go_at_call 53; refine (HF.out _ BW5.out).mono ?_; rintro e w' ⟨rfl, rfl⟩) | (with_reducible refine wpList_append_fits _ (o := ⟨some 67, _, _, _, _, _⟩) rfl _ _ 72 rfl R 76 i0 2 Try.underlying72 I.out I1.out R j n ys rfl (World.ownsRow.alloc OWN5.out _) ⟨w5.heap.size, 0, none⟩ 1 1 [.int .i8 (0), .bool (fl bs p j)] rfl rfl E2.out E3.out E4.out ?_))
              intro w6 hown6 hgr6
              have HO6 := Lib.hid hown6
              have HG6 := Lib.hid hgr6
              clear hown6 hgr6
              go_wp2_with fail
              go_roundw
              case measure => simp [intOf]; omega
              case rel =>
                have hgr := HG6.out
                have hsz := hgr.size
                simp at hsz
                exact ⟨j + 1, _, by omega, rfl, by simp [df, hk], by simp [mx, sOf, hM, hk, FX], by go_num, HO6, Lib.hid (HX.out.snoc (0) _ (by simp [pr, sOf, hM, hk, FX]) rfl), Lib.hid ((HL5.out.alloc (by omega) _).grown hgr (by simp; omega) (fun q hq => by simp only [Option.some.injEq] at hq; omega)), by omega⟩
            · have FX : ¬ (ti = true ∨ kd ks j = 2) := by rintro (h | h); rw [h1] at h; cases h; omega
              by_cases hq : tv = vz vs m j
              · have FY : vz vs m j = tv := hq.symm
                obtain rfl : eq = true := by rw [h3]; simpa using hq
                clear h3 hq
                have E2 := Lib.hid (show ∀ (q : Nat) (u : Value), ([.int .i8 (1), .bool (fl bs p j)] : List Value)[q]? = some u → ((w5).alloc (.cells #[.int .i8 (1), .bool (fl bs p j)] 76)).cell? ((⟨w5.heap.size, 0, none⟩ : Addr).add q) = some u from by have hh := heap_alloc_new (w5) (.cells #[.int .i8 (1), .bool (fl bs p j)] 76); exact World.news_of_block (cs := #[.int .i8 (1), .bool (fl bs p j)]) (t := 76) (fr := (0, 0)) hh)
                have E3 := Lib.hid (show ∀ u ∈ ([.int .i8 (1), .bool (fl bs p j)] : List Value), u.oneCell' = true from by simp [Value.oneCell'])
                have E4 := Lib.hid (show j + 1 ≤ n by omega)
                go_wp2_with (first | (go_at_call 53; refine (HF.out _ BW5.out).mono ?_; rintro e w' ⟨rfl, rfl⟩) | (with_reducible refine wpList_append_fits _ (o := ⟨some 67, _, _, _, _, _⟩) rfl _ _ 72 rfl R 76 i0 2 Try.underlying72 I.out I1.out R j n ys rfl (World.ownsRow.alloc OWN5.out _) ⟨w5.heap.size, 0, none⟩ 1 1 [.int .i8 (1), .bool (fl bs p j)] rfl rfl E2.out E3.out E4.out ?_))
                intro w6 hown6 hgr6
                have HO6 := Lib.hid hown6
                have HG6 := Lib.hid hgr6
                clear hown6 hgr6
                go_wp2_with fail
                go_roundw
                case measure => simp [intOf]; omega
                case rel =>
                  have hgr := HG6.out
                  have hsz := hgr.size
                  simp at hsz
                  exact ⟨j + 1, _, by omega, rfl, by simp [df, hk], by simp [mx, sOf, hM, hk, FX, FY], by go_num, HO6, Lib.hid (HX.out.snoc (1) _ (by simp [pr, sOf, hM, hk, FX, FY]) rfl), Lib.hid ((HL5.out.alloc (by omega) _).grown hgr (by simp; omega) (fun q hq => by simp only [Option.some.injEq] at hq; omega)), by omega⟩
              · have FY : ¬ vz vs m j = tv := fun h => hq h.symm
                obtain rfl : eq = false := by rw [h3]; simpa using hq
                clear h3 hq
                have E2 := Lib.hid (show ∀ (q : Nat) (u : Value), ([.int .i8 (-1), .bool (fl bs p j)] : List Value)[q]? = some u → ((w5).alloc (.cells #[.int .i8 (-1), .bool (fl bs p j)] 76)).cell? ((⟨w5.heap.size, 0, none⟩ : Addr).add q) = some u from by have hh := heap_alloc_new (w5) (.cells #[.int .i8 (-1), .bool (fl bs p j)] 76); exact World.news_of_block (cs := #[.int .i8 (-1), .bool (fl bs p j)]) (t := 76) (fr := (0, 0)) hh)
                have E3 := Lib.hid (show ∀ u ∈ ([.int .i8 (-1), .bool (fl bs p j)] : List Value), u.oneCell' = true from by simp [Value.oneCell'])
                have E4 := Lib.hid (show j + 1 ≤ n by omega)
                go_wp2_with (first | (go_at_call 53; refine (HF.out _ BW5.out).mono ?_; rintro e w' ⟨rfl, rfl⟩) | (with_reducible refine wpList_append_fits _ (o := ⟨some 67, _, _, _, _, _⟩) rfl _ _ 72 rfl R 76 i0 2 Try.underlying72 I.out I1.out R j n ys rfl (World.ownsRow.alloc OWN5.out _) ⟨w5.heap.size, 0, none⟩ 1 1 [.int .i8 (-1), .bool (fl bs p j)] rfl rfl E2.out E3.out E4.out ?_))
                intro w6 hown6 hgr6
                have HO6 := Lib.hid hown6
                have HG6 := Lib.hid hgr6
                clear hown6 hgr6
                go_wp2_with fail
                go_roundw
                case measure => simp [intOf]; omega
                case rel =>
                  have hgr := HG6.out
                  have hsz := hgr.size
                  simp at hsz
                  exact ⟨j + 1, _, by omega, rfl, by simp [df, hk], by simp [mx, sOf, hM, hk, FX, FY], by go_num, HO6, Lib.hid (HX.out.snoc (-1) _ (by simp [pr, sOf, hM, hk, FX, FY]) rfl), Lib.hid ((HL5.out.alloc (by omega) _).grown hgr (by simp; omega) (fun q hq => by simp only [Option.some.injEq] at hq; omega)), by omega⟩
        · go_wp2_with fail
          obtain ⟨W4, hW4⟩ : ∃ W, W = wr.alloc (.cells #[.iface t (.pointer (some ⟨b, 0, none⟩)), .int .i32 0, .slice ao l cc, .int .i32 0] 68) := ⟨_, rfl⟩
          rw [← hW4]
          have B4 : Below wr.heap.size wr W4 := by rw [hW4]; exact (Below.refl _ _).alloc (Nat.le_refl _) _
          have y0 : W4.cell? ⟨wr.heap.size, 0, none⟩ = some (.iface t (.pointer (some ⟨b, 0, none⟩))) := by rw [hW4]; simp [go_sem]
          have y2 : W4.cell? ⟨wr.heap.size, 2, none⟩ = some (.slice ao l cc) := by rw [hW4]; simp [go_sem]
          have u0 := kept B4 f0
          have z4 : wr.heap.size < W4.heap.size := World.block_lt_of_cell? _ _ y0
          have lsb4 : sb < W4.heap.size := World.block_lt_of_cell? _ _ u0
          have BW4 := Lib.hid (BWR.out.trans (B4.mono BWR.out.size))
          have OWN4 := Lib.hid ((Ex.of B4 R).own (Nat.le_refl _) HW.out)
          have HQ4 := Lib.hid (fun (W : World) (hb : Below W4.heap.size W4 W) => HQ.out W (BW4.out.trans (hb.mono BW4.out.size)))
          have HL4 := Lib.hid (show Below R w1 W4 from HL.out.trans (B4.mono (by omega)))
          clear hW4 B4 k0 k1 k2 k3 f0 f1 f2 HQ HW
          go_region_held3 (fun w' => w'.cell? ⟨sb, 0, none⟩ = some tvl ∧ w'.cell? ⟨wr.heap.size, 0, none⟩ = some (.iface t (.pointer (some ⟨b, 0, none⟩)))) (repeat' (first | (refine And.intro ?_ ?_) | assumption | apply kDrew)) (first
            | (go_at_call 52; (with_reducible refine Calls.mono (HQ4.out _ ?hb) ?_); (case hb => with_reducible first | exact Below.refl _ _ | exact (Below.refl _ _).drew); rintro e w5 ⟨rfl, hb5⟩; have y0' := kept hb5 y0; have u0' := kept hb5 u0))
          all_goals
            have y2' : w5.cell? ⟨wr.heap.size, 2, none⟩ = some (.slice ao l cc) := kept hb5 y2
            have z5 : wr.heap.size < w5.heap.size := World.block_lt_of_cell? _ _ y2'
            have BW5 := Lib.hid (BW4.out.drew.trans (hb5.mono BW4.out.size))
            have OWN5 := Lib.hid ((Ex.of hb5 R).own (Nat.le_refl _) (World.ownsRow.drew OWN4.out))
            have hs5 := hb5.size
            have HL5 := Lib.hid (show Below R w1 w5 from HL4.out.drew.trans (hb5.mono (by have := HL4.out.size; simp; omega)))
            clear hb5 y0 y2 u0 z4 lsb4 BW4 OWN4 HQ4 HL4 y0' u0'
            rcases hst with ⟨rfl, h2⟩ | ⟨rfl, h1, h2, h3⟩
            · have FX : (ti = true ∨ kd ks j = 2) := h2
              have E2 := Lib.hid (show ∀ (q : Nat) (u : Value), ([.int .i8 (0), .bool (fl bs p j)] : List Value)[q]? = some u → ((w5).alloc (.cells #[.int .i8 (0), .bool (fl bs p j)] 76)).cell? ((⟨w5.heap.size, 0, none⟩ : Addr).add q) = some u from by have hh := heap_alloc_new (w5) (.cells #[.int .i8 (0), .bool (fl bs p j)] 76); exact World.news_of_block (cs := #[.int .i8 (0), .bool (fl bs p j)]) (t := 76) (fr := (0, 0)) hh)
              have E3 := Lib.hid (show ∀ u ∈ ([.int .i8 (0), .bool (fl bs p j)] : List Value), u.oneCell' = true from by simp [Value.oneCell'])
              have E4 := Lib.hid (show j + 1 ≤ n by omega)
              go_wp2_with (first | (go_at_call 53; refine (HF.out _ BW5.out).mono ?_; rintro e w' ⟨rfl, rfl⟩) | (with_reducible refine wpList_append_fits _ (o := ⟨some 67, _, _, _, _, _⟩) rfl _ _ 72 rfl R 76 i0 2 Try.underlying72 I.out I1.out R j n ys rfl (World.ownsRow.alloc OWN5.out _) ⟨w5.heap.size, 0, none⟩ 1 1 [.int .i8 (0), .bool (fl bs p j)] rfl rfl E2.out E3.out E4.out ?_))
              intro w6 hown6 hgr6
              have HO6 := Lib.hid hown6
              have HG6 := Lib.hid hgr6
              clear hown6 hgr6
              go_wp2_with fail
              go_roundw
              case measure => simp [intOf]; omega
              case rel =>
                have hgr := HG6.out
                have hsz := hgr.size
                simp at hsz
                exact ⟨j + 1, _, by omega, rfl, by simp [df, hk], by simp [mx, sOf, hM, hk, FX], by go_num, HO6, Lib.hid (HX.out.snoc (0) _ (by simp [pr, sOf, hM, hk, FX]) rfl), Lib.hid ((HL5.out.alloc (by omega) _).grown hgr (by simp; omega) (fun q hq => by simp only [Option.some.injEq] at hq; omega)), by omega⟩
            · have FX : ¬ (ti = true ∨ kd ks j = 2) := by rintro (h | h); rw [h1] at h; cases h; omega
              by_cases hq : tv = vz vs m j
              · have FY : vz vs m j = tv := hq.symm
                obtain rfl : eq = true := by rw [h3]; simpa using hq
                clear h3 hq
                have E2 := Lib.hid (show ∀ (q : Nat) (u : Value), ([.int .i8 (1), .bool (fl bs p j)] : List Value)[q]? = some u → ((w5).alloc (.cells #[.int .i8 (1), .bool (fl bs p j)] 76)).cell? ((⟨w5.heap.size, 0, none⟩ : Addr).add q) = some u from by have hh := heap_alloc_new (w5) (.cells #[.int .i8 (1), .bool (fl bs p j)] 76); exact World.news_of_block (cs := #[.int .i8 (1), .bool (fl bs p j)]) (t := 76) (fr := (0, 0)) hh)
                have E3 := Lib.hid (show ∀ u ∈ ([.int .i8 (1), .bool (fl bs p j)] : List Value), u.oneCell' = true from by simp [Value.oneCell'])
                have E4 := Lib.hid (show j + 1 ≤ n by omega)
                go_wp2_with (first | (go_at_call 53; refine (HF.out _ BW5.out).mono ?_; rintro e w' ⟨rfl, rfl⟩) | (with_reducible refine wpList_append_fits _ (o := ⟨some 67, _, _, _, _, _⟩) rfl _ _ 72 rfl R 76 i0 2 Try.underlying72 I.out I1.out R j n ys rfl (World.ownsRow.alloc OWN5.out _) ⟨w5.heap.size, 0, none⟩ 1 1 [.int .i8 (1), .bool (fl bs p j)] rfl rfl E2.out E3.out E4.out ?_))
                intro w6 hown6 hgr6
                have HO6 := Lib.hid hown6
                have HG6 := Lib.hid hgr6
                clear hown6 hgr6
                go_wp2_with fail
                go_roundw
                case measure => simp [intOf]; omega
                case rel =>
                  have hgr := HG6.out
                  have hsz := hgr.size
                  simp at hsz
                  exact ⟨j + 1, _, by omega, rfl, by simp [df, hk], by simp [mx, sOf, hM, hk, FX, FY], by go_num, HO6, Lib.hid (HX.out.snoc (1) _ (by simp [pr, sOf, hM, hk, FX, FY]) rfl), Lib.hid ((HL5.out.alloc (by omega) _).grown hgr (by simp; omega) (fun q hq => by simp only [Option.some.injEq] at hq; omega)), by omega⟩
              · have FY : ¬ vz vs m j = tv := fun h => hq h.symm
                obtain rfl : eq = false := by rw [h3]; simpa using hq
                clear h3 hq
                have E2 := Lib.hid (show ∀ (q : Nat) (u : Value), ([.int .i8 (-1), .bool (fl bs p j)] : List Value)[q]? = some u → ((w5).alloc (.cells #[.int .i8 (-1), .bool (fl bs p j)] 76)).cell? ((⟨w5.heap.size, 0, none⟩ : Addr).add q) = some u from by have hh := heap_alloc_new (w5) (.cells #[.int .i8 (-1), .bool (fl bs p j)] 76); exact World.news_of_block (cs := #[.int .i8 (-1), .bool (fl bs p j)]) (t := 76) (fr := (0, 0)) hh)
                have E3 := Lib.hid (show ∀ u ∈ ([.int .i8 (-1), .bool (fl bs p j)] : List Value), u.oneCell' = true from by simp [Value.oneCell'])
                have E4 := Lib.hid (show j + 1 ≤ n by omega)
                go_wp2_with (first | (go_at_call 53; refine (HF.out _ BW5.out).mono ?_; rintro e w' ⟨rfl, rfl⟩) | (with_reducible refine wpList_append_fits _ (o := ⟨some 67, _, _, _, _, _⟩) rfl _ _ 72 rfl R 76 i0 2 Try.underlying72 I.out I1.out R j n ys rfl (World.ownsRow.alloc OWN5.out _) ⟨w5.heap.size, 0, none⟩ 1 1 [.int .i8 (-1), .bool (fl bs p j)] rfl rfl E2.out E3.out E4.out ?_))
                intro w6 hown6 hgr6
                have HO6 := Lib.hid hown6
                have HG6 := Lib.hid hgr6
                clear hown6 hgr6
                go_wp2_with fail
                go_roundw
                case measure => simp [intOf]; omega
                case rel =>
                  have hgr := HG6.out
                  have hsz := hgr.size
                  simp at hsz
                  exact ⟨j + 1, _, by omega, rfl, by simp [df, hk], by simp [mx, sOf, hM, hk, FX, FY], by go_num, HO6, Lib.hid (HX.out.snoc (-1) _ (by simp [pr, sOf, hM, hk, FX, FY]) rfl), Lib.hid ((HL5.out.alloc (by omega) _).grown hgr (by simp; omega) (fun q hq => by simp only [Option.some.injEq] at hq; omega)), by omega⟩
        · clear HQ hst
          have E2 := Lib.hid (show ∀ (q : Nat) (u : Value), ([.int .i8 (-1), .bool (fl bs p j)] : List Value)[q]? = some u → ((wr.alloc (.cells #[.iface t (.pointer (some ⟨b, 0, none⟩)), .int .i32 0, .slice ao l cc, .int .i32 0] 68)).alloc (.cells #[.int .i8 (-1), .bool (fl bs p j)] 76)).cell? ((⟨wr.heap.size + 1, 0, none⟩ : Addr).add q) = some u from by have hh := heap_alloc_new (wr.alloc (.cells #[.iface t (.pointer (some ⟨b, 0, none⟩)), .int .i32 0, .slice ao l cc, .int .i32 0] 68)) (.cells #[.int .i8 (-1), .bool (fl bs p j)] 76); rw [show (wr.alloc (.cells #[.iface t (.pointer (some ⟨b, 0, none⟩)), .int .i32 0, .slice ao l cc, .int .i32 0] 68)).heap.size = wr.heap.size + 1 from by simp] at hh; exact World.news_of_block (cs := #[.int .i8 (-1), .bool (fl bs p j)]) (t := 76) (fr := (0, 0)) hh)
          have E3 := Lib.hid (show ∀ u ∈ ([.int .i8 (-1), .bool (fl bs p j)] : List Value), u.oneCell' = true from by simp [Value.oneCell'])
          have E4 := Lib.hid (show j + 1 ≤ n by omega)
          go_wp2_with (first | (go_at_call 53; refine (HF.out _ (by repeat (first | with_reducible exact BWR.out | (with_reducible refine Below.drew ?_) | (with_reducible refine Below.alloc ?_ (by have := Below.size BWR.out; simp; try omega) _)))).mono ?_; rintro e w' ⟨rfl, rfl⟩) | (with_reducible refine wpList_append_fits _ (o := ⟨some 67, _, _, _, _, _⟩) rfl _ _ 72 rfl R 76 i0 2 Try.underlying72 I.out I1.out R j n ys rfl (World.ownsRow.alloc (World.ownsRow.alloc HW.out _) _) ⟨wr.heap.size + 1, 0, none⟩ 1 1 [.int .i8 (-1), .bool (fl bs p j)] rfl rfl E2.out E3.out E4.out ?_))
          intro w6 hown6 hgr6
          have HO6 := Lib.hid hown6
          have HG6 := Lib.hid hgr6
          clear hown6 hgr6
          go_wp2_with fail
          go_roundw
          case measure => simp [intOf]; omega
          case rel =>
            have hgr := HG6.out
            have hsz := hgr.size
            simp at hsz
            exact ⟨j + 1, _, by omega, rfl, by simp [df, hk], by simp [mx, sOf, hM, hk], by go_num, HO6, Lib.hid (HX.out.snoc (-1) _ (by simp [pr, sOf, hM, hk]) rfl), Lib.hid (((HL.out.alloc (by omega) _).alloc (by simp; omega) _).grown hgr (by simp; omega) (fun q hq => by simp only [Option.some.injEq] at hq; omega)), by omega⟩
    · obtain rfl : j = n := by omega
      go_upto_if 70 with (fail)
      go_cut [3, 5, 11] from 71 to 81 (fun s3 s5 s11 wx => CU j ti tv ks vs m bs p R w1 s3 s5 wx)
      case first =>
        rcases df_range ks j with hd | ⟨k, hkn, hd, hk0⟩
        · have e1 : (df ks j != -1) = false := by simp [hd]
          have HD := Lib.hid hd
          clear hd
          go_wp2_with fail
          go_meet
          exact ⟨ys, _, rfl, rfl, mx_range ti tv ks vs m j, HW, Lib.hid (HX.out.congr (fun q hq => by unfold pz; rw [if_neg (by rw [HD.out]; omega)])), HL, hL⟩
        · have e1 : ((k : Int) != -1) = true := by simp
          have r0 : wr.cell? ⟨R, k * 2, none⟩ = some (.int .i8 (pr ti tv ks vs m k)) := by rw [World.ownsRow.cellAt HW.out _ (by omega)]; exact (HX.out.2 k hkn).1
          have r1 := World.ownsRow.frozenAt HW.out (k * 2)
          have lR : R < wr.heap.size := World.block_lt_of_cell? _ _ r0
          have k0 : (0 : Int) ≤ (k : Int) := Int.natCast_nonneg _
          have k1 : (k : Int) < (j : Int) := by omega
          rcases mx_range ti tv ks vs m j with hM | hM | hM
          · have S0 := World.ownsRow.stored HW.out (k * 2) (.int .i8 (1))
            have HWS := Lib.hid S0.1
            have HXS := Lib.hid (HX.out.put (1) hkn)
            have hgs := Lib.hid S0.2
            clear S0
            go_wp2_with fail
            go_meet
            exact ⟨_, 1, rfl, (by first | rfl | rw [hM]), by simp, HWS, Lib.hid (HXS.out.congr (fun q hq => by simp only [pz, hd, Int.natCast_inj]; split <;> simp_all)), Lib.hid (HL.out.grown hgs.out (by omega) (fun q hq => by simp only [Option.some.injEq] at hq; omega)), by simp [World.setCell]; omega⟩
          · have S0 := World.ownsRow.stored HW.out (k * 2) (.int .i8 (0))
            have HWS := Lib.hid S0.1
            have HXS := Lib.hid (HX.out.put (0) hkn)
            have hgs := Lib.hid S0.2
            clear S0
            go_wp2_with fail
            go_meet
            exact ⟨_, 0, rfl, (by first | rfl | rw [hM]), by simp, HWS, Lib.hid (HXS.out.congr (fun q hq => by simp only [pz, hd, Int.natCast_inj]; split <;> simp_all)), Lib.hid (HL.out.grown hgs.out (by omega) (fun q hq => by simp only [Option.some.injEq] at hq; omega)), by simp [World.setCell]; omega⟩
          · have S0 := World.ownsRow.stored HW.out (k * 2) (.int .i8 (-1))
            have HWS := Lib.hid S0.1
            have HXS := Lib.hid (HX.out.put (-1) hkn)
            have hgs := Lib.hid S0.2
            clear S0
            go_wp2_with fail
            go_meet
            exact ⟨_, 1, rfl, (by first | rfl | rw [hM]), by simp, HWS, Lib.hid (HXS.out.congr (fun q hq => by simp only [pz, hd, Int.natCast_inj]; split <;> simp_all)), Lib.hid (HL.out.grown hgs.out (by omega) (fun q hq => by simp only [Option.some.injEq] at hq; omega)), by simp [World.setCell]; omega⟩
      case rest =>
      obtain ⟨ys2, M, rfl, rfl, hMr, HW2, HX2, HL2, hL2⟩ := hcut
      rename World => wc
      clear HW HX HL hL
      go_wp2_with fail
      go_loopw [84] (fun i wr => A2 j ti tv ks vs m bs p R w1 i wr) (fun i _ => j - (intOf i).toNat)
      case atStart => exact ⟨0, ys2, by omega, rfl, HW2, Lib.hid (HX2.out.congr (fun q hq => at_zero ti tv ks vs m bs p j q)), HL2, hL2⟩
      case round =>
        clear HW2 HX2 HL2 hL2
        obtain ⟨q, ys, hq, rfl, HW, HX, HL, hL⟩ := hrel
        rename World => wq
        have BWQ := Lib.hid (show Below w.heap.size w wq from BW1.out.trans (HRR.out ▸ HL.out))
        by_cases hqn : q < j
        · obtain ⟨h1, h2⟩ := HX.out.2 q hqn
          have r0 : wq.cell? ⟨R, q * 2, none⟩ = some (.int .i8 (fn ti tv ks vs m bs p j q)) := by rw [World.ownsRow.cellAt HW.out _ (by omega), h1, at_self]
          have r1 : wq.cell? ⟨R, q * 2 + 1, none⟩ = some (.bool (fl bs p q)) := by rw [World.ownsRow.cellAt HW.out _ (by omega)]; exact h2
          have lR : R < wq.heap.size := World.block_lt_of_cell? _ _ r0
          have q0 : (0 : Int) ≤ (q : Int) := Int.natCast_nonneg _
          have q1 : (q : Int) < (j : Int) := by omega
          clear h1 h2
          by_cases hd : fn ti tv ks vs m bs p j q = -1
          · have HXD := Lib.hid (HX.out.congr (fun r _ => at_dead ti tv ks vs m bs p j q r hd))
            rw [hd] at r0
            clear hd HX
            obtain ⟨v, ao, l, cc, dd, hE, hB, x0, x1, x2, x3⟩ := HC.out.2 q hqn
            have k2 : wq.cell? ⟨RC, q * 4 + 2, none⟩ = some (.slice ao l cc) := kept BWQ.out (by rw [World.ownsRow.cellAt HO.out _ (by omega)]; exact x2)
            have f2 : wq.cell? ⟨sb, 2, none⟩ = some (.slice (some ⟨RC, 0, none⟩) j j) := (HL.out.cell (p := ⟨sb, 2, none⟩) (by simp; have := HRR.out; omega)).trans d2
            have lsr : sb < wq.heap.size := World.block_lt_of_cell? _ _ f2
            have lRC : RC < wq.heap.size := World.block_lt_of_cell? _ _ k2
            have HF := Lib.hid (fun (W : World) (hb : Below w.heap.size w W) => noScope (RC + 1) dd (.slice ao l cc) (fl bs p q) W (hB.ex (Ex.of hb _)))
            clear hE hB x0 x1 x2 x3 d0 d1 d2
            rcases hMr with rfl | rfl | rfl
            · go_wp2_with fail
              go_roundw
              case measure => simp [intOf]; omega
              case rel => exact ⟨q + 1, ys, by omega, by go_num, Lib.hid (World.ownsRow.alloc HW.out _), HXD, Lib.hid (HL.out.alloc (by omega) _), by simp; omega⟩
            · go_wp2_with (first | (go_at_call 54; refine (HF.out _ (by repeat (first | with_reducible exact BWQ.out | (with_reducible refine Below.drew ?_) | (with_reducible refine Below.alloc ?_ (by have := Below.size BWQ.out; simp; try omega) _)))).mono ?_; rintro e w6 ⟨rfl, hb6⟩))
              have HB6 := Lib.hid hb6
              have hs6 := hb6.size
              simp at hs6
              clear hb6
              go_wp2_with fail
              go_roundw
              case measure => simp [intOf]; omega
              case rel => exact ⟨q + 1, ys, by omega, by go_num, Lib.hid ((Ex.of HB6.out R).own (Nat.le_refl _) (World.ownsRow.alloc HW.out _)), HXD, Lib.hid ((HL.out.alloc (by omega) _).trans (HB6.out.mono (by simp; omega))), by omega⟩
            · go_wp2_with (first | (go_at_call 54; refine (HF.out _ (by repeat (first | with_reducible exact BWQ.out | (with_reducible refine Below.drew ?_) | (with_reducible refine Below.alloc ?_ (by have := Below.size BWQ.out; simp; try omega) _)))).mono ?_; rintro e w6 ⟨rfl, hb6⟩))
              have HB6 := Lib.hid hb6
              have hs6 := hb6.size
              simp at hs6
              clear hb6
              go_wp2_with fail
              go_roundw
              case measure => simp [intOf]; omega
              case rel => exact ⟨q + 1, ys, by omega, by go_num, Lib.hid ((Ex.of HB6.out R).own (Nat.le_refl _) (World.ownsRow.alloc HW.out _)), HXD, Lib.hid ((HL.out.alloc (by omega) _).trans (HB6.out.mono (by simp; omega))), by omega⟩
          · obtain ⟨x, hx⟩ : ∃ x, x = fn ti tv ks vs m bs p j q := ⟨_, rfl⟩
            have HX0 := Lib.hid hx
            rw [← hx] at r0 hd
            have e1 : (x != -1) = true := by simp [hd]
            have HD := Lib.hid hd
            clear hx hd d0 d1 d2
            go_wp2_with fail
            go_loopw [14] (fun i wz => A3 j ti tv ks vs m bs p R q w1 i wz) (fun i _ => j - (intOf i).toNat)
            case atStart => exact ⟨q, ys, Nat.le_refl _, by omega, by go_num, Lib.hid (World.ownsRow.alloc HW.out _), Lib.hid (HX.out.congr (fun r _ => if_neg (by omega))), Lib.hid (fun t h1 h2 => absurd h2 (by omega)), Lib.hid (HL.out.alloc (by omega) _), by simp; omega⟩
            case round =>
              clear r0 r1 lR
              obtain ⟨t, zs, hqt, htj, rfl, HW3, HX3, HF3, HL3, hL3⟩ := hrel
              rename World => wz
              by_cases htn : t + 1 < j
              · obtain ⟨h1, h2⟩ := HX3.out.2 t (by omega)
                obtain ⟨h3, h4⟩ := HX3.out.2 (t + 1) htn
                have s1 : wz.cell? ⟨R, t * 2 + 1, none⟩ = some (.bool (fl bs p t)) := by rw [World.ownsRow.cellAt HW3.out _ (by omega)]; exact h2
                have s0 : ∃ y, wz.cell? ⟨R, (t + 1) * 2, none⟩ = some (.int .i8 y) := ⟨_, by rw [World.ownsRow.cellAt HW3.out _ (by omega)]; exact h3⟩
                obtain ⟨y, s0⟩ := s0
                have sf := World.ownsRow.frozenAt HW3.out ((t + 1) * 2)
                have lR : R < wz.heap.size := World.block_lt_of_cell? _ _ s1
                have t0 : (0 : Int) ≤ (t : Int) := Int.natCast_nonneg _
                have t1 : (t : Int) + 1 < (j : Int) := by omega
                clear h1 h2 h3 h4
                cases hfl : fl bs p t
                · rw [hfl] at s1
                  have HXE := Lib.hid (HX3.out.congr (fun r hr => a3_end ti tv ks vs m bs p (HX0.out ▸ HD.out) hqt HF3.out (.inr hfl) hr))
                  clear hfl
                  go_wp2_with fail
                  go_roundw
                  case measure => simp [intOf]; omega
                  case rel => exact ⟨q + 1, zs, by omega, by go_num, HW3, HXE, HL3, hL3⟩
                · rw [hfl] at s1
                  have S0 := World.ownsRow.stored HW3.out ((t + 1) * 2) (.int .i8 0)
                  have HWS := Lib.hid S0.1
                  have HGS := Lib.hid S0.2
                  have HXS := Lib.hid ((HX3.out.put 0 htn).congr (fun r hr => a3_step ti tv ks vs m bs p (n := j) (q := q) (t := t) hqt))
                  have HFS := Lib.hid (show ∀ u, q ≤ u → u + 1 < t + 1 + 1 → fl bs p u = true from fun u h1 h2 => by
                    by_cases e : u = t
                    · subst e; exact hfl
                    · exact HF3.out u h1 (by omega))
                  clear S0 hfl
                  go_wp2_with fail
                  go_roundw
                  case measure => simp [intOf]; omega
                  case rel => exact ⟨t + 1, _, by omega, by omega, by go_num, HWS, HXS, HFS, Lib.hid (HL3.out.grown HGS.out (by omega) (fun k hk => by simp only [Option.some.injEq] at hk; omega)), by simp [World.setCell]; omega⟩
              · have HXE := Lib.hid (HX3.out.congr (fun r hr => a3_end ti tv ks vs m bs p (HX0.out ▸ HD.out) hqt HF3.out (.inl (by omega)) hr))
                have et : t + 1 = j := by omega
                have e9 : decide ((t : Int) + 1 < (j : Int)) = false := by simp; omega
                have HT9 := Lib.hid et
                clear et
                go_wp2_with fail
                go_roundw
                case measure => simp [intOf]; omega
                case rel => exact ⟨q + 1, zs, by omega, by go_num, HW3, HXE, HL3, hL3⟩
        · obtain rfl : q = j := by omega
          have HXE := Lib.hid (HX.out.congr (st' := fn ti tv ks vs m bs p q) (fun r hr => by unfold at_; rw [if_pos hr]))
          go_wp2_with fail
          go_ret
          exact ⟨R, ys, rfl, HW.out, HXE.out, BWQ.out⟩
end Go.Proofs.Ytjnffbnipjkibaa
