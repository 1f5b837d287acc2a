/- Proved here: the contracts of the block's maker and of zzWrapBody. Conditions: the code's bytes, as stated. -/
import Derived.Test.YtjnffbnipjkibaaTIA
import Derived.WalkKit
import Derived.WalkSpells
import Derived.WalkLawsBesides
import Derived.Lib.Hide
import Derived.Lib.SliceRun
import Derived.Deep.RegionWith
import Derived.OwnWalk
import Derived.Laws.OwnMore
import Derived.Deep.AppendLies
namespace Go.Proofs.Ytjnffbnipjkibaa
open Go.RowKit
set_option linter.unusedSimpArgs false
set_option linter.unusedVariables false

theorem info34 : (Try.prog.info? 34).map (fun i => (i.zero, i.size, i.bytes)) = some (some (.agg #[.nilIface, .int .i32 0]), 2, 24) := by kernel_rfl
def SbP (a b : Int) (s : Value) (w : World) (e : Ending) (w' : World) : Prop := ∃ nb, e = .returned (.agg #[.iface 55 (.pointer (some ⟨nb, 0, none⟩)), .int .i32 a]) ∧ w'.cell? ⟨nb, 0, none⟩ = some s ∧ w'.cell? ⟨nb, 1, none⟩ = some (.int .i32 b) ∧ Below w.heap.size w w'
set_option maxRecDepth 100000 in
set_option maxHeartbeats 1000000 in
theorem sblock (a b : Int) (ao : Option Addr) (n c : Nat) (w : World) : Calls Try.prog 26 #[.int .i32 a, .int .i32 b, .slice ao n c] w (SbP a b (.slice ao n c) w) := by
  go_enter Try.func26, Try.ntmps26
  go_wp2_with fail
  exact bodyPost_ret (v := .agg #[.iface 55 (.pointer (some ⟨w.heap.size + 1, 0, none⟩)), .int .i32 a]) (by simp [results, Try.results26, go_sem]) rfl ⟨_, rfl, by simp [go_sem], by simp [go_sem], (by repeat (first | with_reducible exact Below.refl _ _ | (with_reducible refine Below.alloc ?_ (by simp; try omega) _) | (with_reducible refine Below.setCell ?_ (by simp; try omega) _)))⟩
def cd (zs : List Int) (q : Nat) : Int := zs.getD q 0 % 14
/-- The cells xs are j statements, the q-th with the code cd q and at location q + 1. -/
def Rw (B : Nat) (w : World) (xs : List Value) (j : Nat) (zs : List Int) : Prop := xs.length = j * 2 ∧ ∀ q, q < j → ∃ v, St B w (cd zs q) v ∧ xs[q * 2]? = some v ∧ xs[q * 2 + 1]? = some (.int .i32 ((q : Int) + 1))
theorem Rw.ex {B : Nat} {w w' : World} {xs : List Value} {j : Nat} {zs : List Int} (h : Rw B w xs j zs) (he : Ex B w w') : Rw B w' xs j zs := ⟨h.1, fun q hq => by obtain ⟨v, h1, h2, h3⟩ := h.2 q hq; exact ⟨v, h1.ex he, h2, h3⟩⟩
theorem Rw.snoc {B : Nat} {w : World} {xs : List Value} {j : Nat} {zs : List Int} (h : Rw B w xs j zs) (v : Value) (hv : St B w (cd zs j) v) : Rw B w (xs ++ [v, .int .i32 ((j : Int) + 1)]) (j + 1) zs := by
  refine ⟨by simp [h.1]; omega, fun q hq => ?_⟩
  by_cases e : q = j
  · subst e
    have l := h.1
    refine ⟨v, hv, ?_, ?_⟩ <;> (rw [List.getElem?_append_right (by omega), l]; simp)
  · obtain ⟨v', h1, h2, h3⟩ := h.2 q (by omega)
    have l := h.1
    refine ⟨v', h1, ?_, ?_⟩ <;> (rw [List.getElem?_append_left (by omega)]; assumption)
/-- The location at which the wrapper number d + 1 lies; the innermost one lies at L. -/
def lo_ (L : Int) (d : Nat) : Int := if d = 0 then L else 33554432 + ((d : Int) + 1)
def cl_ (C : Int) (d : Nat) : Int := if d = 0 then C else 67108864 + ((d : Int) + 1)
theorem lo_eq (d : Nat) : lo_ 33554433 d = 33554432 + ((d : Int) + 1) := by
  unfold lo_; split
  · next h => subst h; rfl
  · rfl
theorem cl_eq (d : Nat) : cl_ 67108865 d = 67108864 + ((d : Int) + 1) := by
  unfold cl_; split
  · next h => subst h; rfl
  · rfl
/-- The slice s is s0 wrapped d times in a block that is one's only statement. -/
def Wr (L C : Int) (w : World) (s0 : Value) : Nat → Value → Prop
  | 0, s => s = s0
  | d + 1, s => ∃ G nb ao n c, s = .slice (some ⟨G, 0, none⟩) 1 1 ∧ w.cell? ⟨G, 0, none⟩ = some (.iface 55 (.pointer (some ⟨nb, 0, none⟩))) ∧ w.cell? ⟨G, 1, none⟩ = some (.int .i32 (lo_ L d)) ∧ w.cell? ⟨nb, 0, none⟩ = some (.slice ao n c) ∧ w.cell? ⟨nb, 1, none⟩ = some (.int .i32 (cl_ C d)) ∧ Wr L C w s0 d (.slice ao n c)
theorem Wr.below {L C : Int} {w w' : World} (hb : Below w.heap.size w w') {s0 : Value} : ∀ {d : Nat} {s : Value}, Wr L C w s0 d s → Wr L C w' s0 d s
  | 0, _, h => h
  | _ + 1, _, ⟨G, nb, ao, n, c, h1, h2, h3, h4, h5, h6⟩ => ⟨G, nb, ao, n, c, h1, kept hb h2, kept hb h3, kept hb h4, kept hb h5, Wr.below hb h6⟩
def L1 (n : Nat) (zs : List Int) (R : Nat) (W : World) (s i : Value) (wr : World) : Prop := ∃ (j : Nat) (xs : List Value), j ≤ n ∧ s = .slice (some ⟨R, 0, none⟩) j n ∧ i = .int .i64 j ∧ Hid (wr.ownsRow R 34 2 s j xs) ∧ Hid (Rw (R + 1) wr xs j zs) ∧ Hid (Below R W wr) ∧ R + 1 ≤ wr.heap.size
def L2 (s0 : Value) (D : Nat) (W : World) (s i : Value) (wr : World) : Prop := ∃ (d : Nat) (ao : Option Addr) (n c : Nat), d ≤ D ∧ s = .slice ao n c ∧ i = .int .i64 ((d : Int) + 1) ∧ Hid (Wr 33554433 67108865 wr s0 d s) ∧ Hid (Below W.heap.size W wr)
/-- A slice of bytes that reads as zs. -/
def RowB (w : World) (a : Option Addr) (n : Nat) (zs : List Int) : Prop := ∀ i, i < n → ∃ B off, a = some ⟨B, off, none⟩ ∧ w.cell? ⟨B, off + i, none⟩ = some (.int .u8 (zs.getD i 0))
theorem RowB.below {w w' : World} {a : Option Addr} {n : Nat} {zs : List Int} (h : RowB w a n zs) (hb : Below w.heap.size w w') : RowB w' a n zs := fun i hi => by
  obtain ⟨B, off, e, hc⟩ := h i hi
  exact ⟨B, off, e, kept hb hc⟩
def WbP (n D : Nat) (zs : List Int) (w : World) (e : Ending) (w' : World) : Prop := ∃ ao l c xs, e = .returned (.slice ao l c) ∧ Wr 33554433 67108865 w' (.slice (some ⟨w.heap.size, 0, none⟩) n n) D (.slice ao l c) ∧ w'.ownsRow w.heap.size 34 2 (.slice (some ⟨w.heap.size, 0, none⟩) n n) n xs ∧ Rw (w.heap.size + 1) w' xs n zs ∧ Below w.heap.size w w'
set_option maxRecDepth 100000 in
set_option maxHeartbeats 4000000 in
theorem wrapBody (a : Option Addr) (n cap D : Nat) (zs : List Int) (w : World) (hr : RowB w a n zs) (hz : ∀ i, 0 ≤ zs.getD i 0 ∧ zs.getD i 0 ≤ 255) (hn : n ≤ 65536) (hD : D ≤ 255) : Calls Try.prog 9 #[.slice a n cap, .int .i64 D] w (WbP n D zs w) := by
  obtain ⟨i0, hi0, hz0, hz1, hz2⟩ := info_parts info34
  have I := Lib.hid hi0
  have I0 := Lib.hid hz0
  have I1 := Lib.hid hz1
  have I2 := Lib.hid hz2
  have HR := Lib.hid hr
  clear hi0 hz0 hz1 hz2 hr
  go_enter Try.func9, Try.ntmps9
  go_wp2_with (with_reducible refine wpList_make_own _ (o := ⟨some 11, _, _, _, _, _⟩) rfl _ _ 24 rfl w.heap.size 34 i0 _ 2 Try.underlying24 I.out I0.out I1.out .i64 .i64 _ n rfl rfl ?e1 ?e2 ?e3 (Nat.le_refl _) ?_)
  case e1 => rfl
  case e2 => rw [I2.out]; omega
  case e3 => unfold maxLen; omega
  intro w1 hown hgr
  go_wp2_with fail
  go_loopw [5, 6] (fun s i wr => L1 n zs w.heap.size w s i wr) (fun s i _ => n - (intOf i).toNat)
  case atStart => exact ⟨0, [], by omega, rfl, rfl, Lib.hid hown, Lib.hid ⟨rfl, fun q hq => absurd hq (by omega)⟩, Lib.hid ((Below.refl w.heap.size w).grown hgr (Nat.le_refl _) (fun q hq => by cases hq)), by have := (World.ownsRow.lt hown w.heap.size rfl).2; omega⟩
  case round =>
    obtain ⟨j, xs, hj, rfl, rfl, HW, HX, HL, hL⟩ := hrel
    clear hown hgr
    by_cases hjn : j < n
    · obtain ⟨B, off, rfl, c0⟩ := (HR.out.below HL.out) j hjn
      obtain ⟨z0, z1⟩ := hz j
      have HC := Lib.hid (inl (cd zs j) ((j : Int) + 1) wr (by unfold cd; omega) (by unfold cd; omega))
      have HCD := Lib.hid (show zs.getD j 0 % 14 = cd zs j from rfl)
      obtain ⟨z, hzz⟩ : ∃ z, z = zs.getD j 0 := ⟨_, rfl⟩
      rw [← hzz] at c0 z0 z1 HCD
      clear hzz
      have lB : B < wr.heap.size := World.block_lt_of_cell? _ _ c0
      have q0 : (0 : Int) ≤ (j : Int) := Int.natCast_nonneg _
      have q1 : (j : Int) < (n : Int) := by omega
      have zc := HCD.out
      go_wp2_with fail
      refine HC.out.mono ?_
      rintro e w2 ⟨v, rfl, hs, hb⟩
      obtain ⟨bq, hs1, hs2, hs3⟩ := id hs
      obtain ⟨ty, rfl⟩ : ∃ t, v = .iface t (.pointer (some ⟨bq, 0, none⟩)) := by
        rcases hs3 with h | h | h | h | h | h | h | h | h | h | h | h | h | h
        all_goals first | exact ⟨_, h.2⟩ | exact ⟨_, h.2.1⟩
      have HS := Lib.hid hs
      have HB := Lib.hid hb
      have OWN := Lib.hid ((Ex.of hb (w.heap.size)).own (Nat.le_refl _) HW.out)
      have hw2 := hb.size
      have E2 := Lib.hid (show ∀ (q : Nat) (u : Value), ([.iface ty (.pointer (some ⟨bq, 0, none⟩)), .int .i32 ((j : Int) + 1)] : List Value)[q]? = some u → (w2.alloc (.cells #[.iface ty (.pointer (some ⟨bq, 0, none⟩)), .int .i32 ((j : Int) + 1)] 34)).cell? ((⟨w2.heap.size, 0, none⟩ : Addr).add q) = some u from World.news_of_block (cs := #[.iface ty (.pointer (some ⟨bq, 0, none⟩)), .int .i32 ((j : Int) + 1)]) (t := 34) (fr := (0, 0)) (heap_alloc_new w2 _))
      have E3 := Lib.hid (show ∀ u ∈ ([.iface ty (.pointer (some ⟨bq, 0, none⟩)), .int .i32 ((j : Int) + 1)] : List Value), u.oneCell' = true from by simp [Value.oneCell'])
      have E4 := Lib.hid (show j + 1 ≤ n by omega)
      clear hs hb hs3 hs2 hs1 HC zc HW c0 lB z0 z1
      go_wp2_with (with_reducible refine wpList_append_fits _ (o := ⟨some 29, _, _, _, _, _⟩) rfl _ _ 24 rfl w.heap.size 34 i0 2 Try.underlying24 I.out I1.out w.heap.size j n xs rfl (OWN.out.alloc _) ⟨w2.heap.size, 0, none⟩ 1 1 [.iface ty (.pointer (some ⟨bq, 0, none⟩)), .int .i32 ((j : Int) + 1)] rfl rfl E2.out E3.out E4.out ?_)
      intro w3 hown3 hgr3
      have HO3 := Lib.hid hown3
      have HG3 := Lib.hid hgr3
      clear hown3 hgr3
      go_wp2_with fail
      go_roundw
      case measure => simp [intOf]; omega
      case rel =>
        have hgr := HG3.out
        have hex : Ex (w.heap.size + 1) w2 w3 := ((Ex.refl _ w2).alloc _).grown hgr (fun k hk => by simp only [Option.some.injEq] at hk; omega)
        have hsz := hgr.size
        simp at hsz
        exact ⟨j + 1, _, by omega, rfl, by go_num, HO3, Lib.hid (((HX.out.ex (Ex.of HB.out _)).ex hex).snoc _ ((HS.out.low (by omega)).ex hex)), Lib.hid (((HL.out.trans (HB.out.mono (by omega))).alloc (by omega) _).grown hgr (by simp; omega) (fun q hq => by simp only [Option.some.injEq] at hq; omega)), by omega⟩
    · obtain rfl : j = n := by omega
      go_wp2_with fail
      have HW0 := HW.out
      obtain ⟨W0, hW0⟩ : ∃ W, W = wr := ⟨_, rfl⟩
      subst hW0
      clear hL
      go_loopw [5, 7] (fun s i wr => L2 (.slice (some ⟨w.heap.size, 0, none⟩) j j) D W0 s i wr) (fun s i _ => D + 1 - (intOf i).toNat)
      case atStart => exact ⟨0, _, _, _, by omega, rfl, rfl, Lib.hid rfl, Lib.hid (Below.refl _ _)⟩
      case round =>
        obtain ⟨d, ao, l, c, hd, rfl, rfl, HWr, HB2⟩ := hrel
        by_cases hdD : d < D
        · have HC := Lib.hid (sblock (33554432 + ((d : Int) + 1)) (67108864 + ((d : Int) + 1)) ao l c)
          go_wp2_with fail
          refine (HC.out _).mono ?_
          rintro e w4 ⟨nb, rfl, hn0, hn1, hb4⟩
          have HN0 := Lib.hid hn0
          have HN1 := Lib.hid hn1
          have HB4 := Lib.hid hb4
          clear hn0 hn1 hb4 HC
          go_wp2_with fail
          go_roundw
          case measure => simp [intOf]; omega
          case rel =>
            have hs4 := HB4.out.size
            refine ⟨d + 1, _, _, _, by omega, rfl, by go_num, Lib.hid ⟨_, nb, ao, l, c, rfl, by simp [go_sem], by rw [lo_eq]; simp [go_sem], kAlloc (kAlloc HN0.out), by rw [cl_eq]; exact kAlloc (kAlloc HN1.out), Wr.below (((Below.refl _ _).alloc (Nat.le_refl _) _).alloc (by simp) _) (Wr.below HB4.out HWr.out)⟩, Lib.hid (((HB2.out.trans (HB4.out.mono HB2.out.size)).alloc (by have := HB2.out.size; omega) _).alloc (by have := HB2.out.size; simp; omega) _)⟩
        · obtain rfl : d = D := by omega
          go_wp2_with fail
          exact bodyPost_ret (v := .slice ao l c) (by simp [results, Try.results9, go_sem]) rfl ⟨_, _, _, xs, rfl, HWr.out, (Ex.of HB2.out w.heap.size).own (Nat.le_refl _) HW.out, HX.out.ex (Ex.of HB2.out _), HL.out.trans (HB2.out.mono HL.out.size)⟩
end Go.Proofs.Ytjnffbnipjkibaa
