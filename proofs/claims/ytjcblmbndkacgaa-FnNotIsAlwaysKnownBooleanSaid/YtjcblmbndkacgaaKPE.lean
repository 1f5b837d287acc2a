/- Proved here: the tree test and the copy of the law's node list return. Conditions: the list's cells, as stated. -/
import Derived.Test.YtjcblmbndkacgaaKPD
import Derived.WalkKit
import Derived.WalkSpells
import Derived.WalkLawsBesides
import Derived.Lib.Hide
import Derived.Lib.SliceRun
import Derived.Deep.RegionWith
import Derived.Deep.RegionHeld3
import Derived.Deep.DeepCutAuto
import Derived.Deep.QuietTactic
import Derived.BigQuiet
namespace Go.Proofs.Ytjcblmbndkacgaa
open Go.RowKit
set_option linter.unusedSimpArgs false
set_option linter.unusedVariables false

def Bools (cs : Array Value) (n : Nat) : Prop := cs.size = n ∧ ∀ t, t < n → ∃ b, cs[t]? = some (.bool b)
theorem Bools.set {cs : Array Value} {n : Nat} (h : Bools cs n) (i : Nat) (b : Bool) : Bools (cs.setIfInBounds i (.bool b)) n := by
  refine ⟨by simp [h.1], fun t ht => ?_⟩
  by_cases e : i = t
  · subst e; exact ⟨b, by simp [h.1, ht]⟩
  · rw [Array.getElem?_setIfInBounds_ne e]; exact h.2 t ht
def TL (w : World) (U n : Nat) (i : Value) (wr : World) : Prop := ∃ (j : Nat) (cs : Array Value), j ≤ n ∧ i = .int .i64 j ∧ Hid (At wr U 4 cs) ∧ Hid (Bools cs n) ∧ Hid (Below w.heap.size w wr)
def TL2 (w : World) (U n m : Nat) (i : Value) (wr : World) : Prop := ∃ (j : Nat) (cs : Array Value), j ≤ m ∧ i = .int .i64 j ∧ Hid (At wr U 4 cs) ∧ Hid (Bools cs n) ∧ Hid (Below w.heap.size w wr)

set_option maxRecDepth 100000 in
set_option maxHeartbeats 4000000 in
theorem isTree (a : Option Addr) (n c : Nat) (w : World) (h : IsRecs w a n c NSig) (hn : n ≤ 1048576) : Calls Try.prog 8 #[.slice a n c] w (SomeBoolB w) := by
  have HR := Lib.hid h
  have hmk := made (P := Try.prog) (t := 40) (e := 4) (z := .bool false) (sz := 1) (by_ := 1) Try.underlying40 (by kernel_rfl) w n (by omega) (by omega)
  rw [Nat.mul_one] at hmk
  clear h
  go_enter Try.func8, Try.ntmps8
  go_wp2_with fail
  clear hmk
  go_loopw [5] (fun i wr => TL w w.heap.size n i wr) (fun i _ => n - (intOf i).toNat)
  case atStart => exact ⟨0, _, by omega, rfl, Lib.hid (At.new _ _ _), Lib.hid ⟨by simp [size_madeCells], fun t ht => ⟨false, madeAt _ _ _ ht⟩⟩, Lib.hid ((Below.refl _ _).alloc (Nat.le_refl _) _)⟩
  case round =>
    obtain ⟨i, cs, hi, rfl, AT, BS, HB⟩ := hrel
    by_cases hlt : i < n
    · obtain ⟨B, off, k, op, f, ch, x, y, z, rfl, ⟨h0, h1, h2, h3, h4, h5, h6⟩, k0, k1, op0, op1, ch0, ch1, wx, wy, wz⟩ := IsRecs.at (HR.out.below HB.out) (show i < n by omega)
      have lB : B < wr.heap.size := World.block_lt_of_cell? _ _ h0
      have hi0 : (0 : Int) ≤ (i : Int) := Int.natCast_nonneg _
      have hi1 : (i : Int) < (n : Int) := by omega
      go_wp2_with fail
      refine (arity k _).mono ?_
      rintro e w' ⟨m, hm, rfl, rfl⟩
      go_wp2_with fail
      go_loopw [7] (fun i wq => TL2 w w.heap.size n m i wq) (fun i _ => m - (intOf i).toNat)
      case atStart => exact ⟨0, cs, by omega, rfl, AT, BS, HB⟩
      case round =>
        obtain ⟨j, cs2, hj, rfl, AT2, BS2, HB2⟩ := hrel
        rename World => wq
        clear AT BS
        by_cases hlt2 : j < m
        · clear h0 h1 h2 h3 h4 h5 h6
          obtain ⟨B', off', k', op', f', ch', x', y', z', e1, ⟨h0, h1, h2, h3, h4, h5, h6⟩, k0', k1', op0', op1', ch0', ch1', wx', wy', wz'⟩ := IsRecs.at (HR.out.below HB2.out) (show i < n by omega)
          cases e1
          have hj0 : (0 : Int) ≤ (j : Int) := Int.natCast_nonneg _
          have hj1 : (j : Int) < (m : Int) := by omega
          go_wp2_with fail
          refine (childAt k' op' ch' x' y' z' f' j _).mono ?_
          rintro e w1 ⟨v, hv, rfl, hb1⟩
          have hv2 : -2147483648 ≤ v ∧ v ≤ 2147483647 := by rcases hv with rfl | rfl | rfl <;> assumption
          have B1 := Lib.hid (HB2.out.trans (hb1.mono HB2.out.size))
          have AT1 := Lib.hid (At.below AT2.out hb1 AT2.out.lt)
          clear hv hb1 AT2 HB2 h0 h1 h2 h3 h4 h5 h6
          go_wp2_with fail
          refine (childOK n i v w1 (by omega) (by omega) hv2.1 hv2.2).mono ?_
          rintro e w' ⟨b, hb, rfl, rfl⟩
          cases b
          · go_wp2_with fail
            go_roundw
            case rel => exact ⟨j + 1, cs2, by omega, by go_num, AT1, BS2, B1⟩
            case measure => simp [intOf]; omega
          · obtain ⟨g1, g2⟩ := hb rfl
            obtain ⟨vn, rfl⟩ : ∃ vn : Nat, v = (vn : Int) := ⟨v.toNat, by omega⟩
            have lv : vn < n := by omega
            obtain ⟨ub, hub⟩ := BS2.out.2 vn lv
            have hu : w1.cell? ⟨w.heap.size, vn, none⟩ = some (.bool ub) := by rw [AT1.out.cell]; exact hub
            have fu := AT1.out.frozen vn
            have v0 : (0 : Int) ≤ (vn : Int) := Int.natCast_nonneg _
            cases ub
            · go_wp2_with fail
              go_roundw
              case rel => exact ⟨j + 1, _, by omega, by go_num, Lib.hid (AT1.out.set vn _), Lib.hid (BS2.out.set vn _), Lib.hid (B1.out.setCell (Nat.le_refl _) _)⟩
              case measure => simp [intOf]; omega
            · go_wp2_with fail
              go_ret
              exact ⟨false, rfl, B1.out⟩
        · have e : j = m := by omega
          subst e
          have e9 : decide ((j : Int) < (j : Int)) = false := by simp
          go_wp2_with fail
          go_roundw
          case rel => exact ⟨i + 1, cs2, by omega, by go_num, AT2, BS2, HB2⟩
          case measure => simp [intOf]; omega
    · have e : i = n := by omega
      subst e
      have e9 : decide (i < i) = false := by simp
      go_wp2_with fail
      go_ret
      exact ⟨true, rfl, HB.out⟩

def ClP (n : Nat) (w : World) (e : Ending) (w' : World) : Prop := ∃ a' c', e = .returned (.slice a' n c') ∧ IsRecs w' a' n c' NSig ∧ Below w.heap.size w w'
def CL (w : World) (n : Nat) (i : Value) (wr : World) : Prop := ∃ (j : Nat) (cs : Array Value), j ≤ n ∧ i = .int .i64 j ∧ Hid (At wr w.heap.size 97 cs) ∧ Hid (cs.size = n * 7) ∧ Hid (∀ t, t < j → ∀ q p, NSig[q]? = some p → ∃ v, cs[t * 7 + q]? = some v ∧ p v) ∧ Hid (Below w.heap.size w wr)

set_option maxRecDepth 100000 in
set_option maxHeartbeats 4000000 in
theorem clone (a : Option Addr) (n c : Nat) (w : World) (h : IsRecs w a n c NSig) (hn : n ≤ 1048576) (hn0 : 0 < n) : Calls Try.prog 9 #[.slice a n c] w (ClP n w) := by
  have HR := Lib.hid h
  have ha : ∃ x, a = some x := by
    rcases h with ⟨_, h1, _⟩ | ⟨x, e, _⟩
    · omega
    · exact ⟨x, e⟩
  obtain ⟨x, rfl⟩ := ha
  have hmk := made (P := Try.prog) (t := 22) (e := 97) (z := .agg #[.int .u8 0, .int .u8 0, .bool false, .int .u8 0, .int .i32 0, .int .i32 0, .int .i32 0]) (sz := 7) (by_ := 16) Try.underlying22 (by kernel_rfl) w n (by omega) (by omega)
  clear h
  have qT : ∀ (w : World) (a : Option Addr) (n c n' c' : Nat), (binOp .eql 22 (.slice a n c) (.slice none n' c')).run Try.prog w = .ok (.bool a.isNone) w := fun w a n c n' c' => Lib.run_eql_slice_nil w 22 97 a n c n' c' Try.underlying22
  go_enter Try.func9, Try.ntmps9
  go_wp2_with fail
  clear hmk
  go_loopw [4] (fun i wr => CL w n i wr) (fun i _ => n - (intOf i).toNat)
  case atStart => exact ⟨0, _, by omega, rfl, Lib.hid (At.new _ _ _), Lib.hid (by simp [size_madeCells]), Lib.hid (fun t ht => absurd ht (by omega)), Lib.hid ((Below.refl _ _).alloc (Nat.le_refl _) _)⟩
  case round =>
    obtain ⟨i, cs, hi, rfl, AT, HZ, HC, HB⟩ := hrel
    by_cases hlt : i < n
    · obtain ⟨B, off, k, op, f, ch, x', y, z, hx, ⟨h0, h1, h2, h3, h4, h5, h6⟩, k0, k1, op0, op1, ch0, ch1, wx, wy, wz⟩ := IsRecs.at (HR.out.below HB.out) hlt
      cases hx
      have hi0 : (0 : Int) ≤ (i : Int) := Int.natCast_nonneg _
      have hi1 : (i : Int) < (n : Int) := by omega
      have lS := AT.out.lt
      have hz := HZ.out
      have d0 : wr.cell? ⟨w.heap.size, i * 7, none⟩ = some (cs[i * 7]'(by omega)) := by rw [AT.out.cell]; simp
      have f0 := AT.out.frozen (i * 7)
      have d1 : wr.cell? ⟨w.heap.size, i * 7 + 1, none⟩ = some (cs[i * 7 + 1]'(by omega)) := by rw [AT.out.cell]; simp
      have f1 := AT.out.frozen (i * 7 + 1)
      have d2 : wr.cell? ⟨w.heap.size, i * 7 + 2, none⟩ = some (cs[i * 7 + 2]'(by omega)) := by rw [AT.out.cell]; simp
      have f2 := AT.out.frozen (i * 7 + 2)
      have d3 : wr.cell? ⟨w.heap.size, i * 7 + 3, none⟩ = some (cs[i * 7 + 3]'(by omega)) := by rw [AT.out.cell]; simp
      have f3 := AT.out.frozen (i * 7 + 3)
      have d4 : wr.cell? ⟨w.heap.size, i * 7 + 4, none⟩ = some (cs[i * 7 + 4]'(by omega)) := by rw [AT.out.cell]; simp
      have f4 := AT.out.frozen (i * 7 + 4)
      have d5 : wr.cell? ⟨w.heap.size, i * 7 + 5, none⟩ = some (cs[i * 7 + 5]'(by omega)) := by rw [AT.out.cell]; simp
      have f5 := AT.out.frozen (i * 7 + 5)
      have d6 : wr.cell? ⟨w.heap.size, i * 7 + 6, none⟩ = some (cs[i * 7 + 6]'(by omega)) := by rw [AT.out.cell]; simp
      have f6 := AT.out.frozen (i * 7 + 6)
      go_wp2_with fail
      refine ⟨⟨i + 1, _, by omega, by go_num, Lib.hid (((((((AT.out.set _ _).set _ _).set _ _).set _ _).set _ _).set _ _).set _ _), Lib.hid (by simp [hz]), Lib.hid ?_, Lib.hid (((((((HB.out.setCell (Nat.le_refl _) _).setCell (Nat.le_refl _) _).setCell (Nat.le_refl _) _).setCell (Nat.le_refl _) _).setCell (Nat.le_refl _) _).setCell (Nat.le_refl _) _).setCell (Nat.le_refl _) _)⟩, by simp [intOf]; omega⟩
      intro t ht q p hp
      by_cases e : t = i
      · subst e
        match q, hp with
          | 0, hp => obtain rfl := Option.some.inj hp; exact ⟨.int .u8 k, by simp [Array.getElem?_setIfInBounds]; omega, k, rfl, by simp [Lit.wf, IntKind.min, IntKind.max, IntKind.signed, IntKind.bits]; omega⟩
          | 1, hp => obtain rfl := Option.some.inj hp; exact ⟨.int .u8 op, by simp [Array.getElem?_setIfInBounds]; omega, op, rfl, by simp [Lit.wf, IntKind.min, IntKind.max, IntKind.signed, IntKind.bits]; omega⟩
          | 2, hp => obtain rfl := Option.some.inj hp; exact ⟨.bool f, by simp [Array.getElem?_setIfInBounds]; omega, f, rfl⟩
          | 3, hp => obtain rfl := Option.some.inj hp; exact ⟨.int .u8 ch, by simp [Array.getElem?_setIfInBounds]; omega, ch, rfl, by simp [Lit.wf, IntKind.min, IntKind.max, IntKind.signed, IntKind.bits]; omega⟩
          | 4, hp => obtain rfl := Option.some.inj hp; exact ⟨.int .i32 x', by simp [Array.getElem?_setIfInBounds]; omega, x', rfl, by simp [Lit.wf, IntKind.min, IntKind.max, IntKind.signed, IntKind.bits]; omega⟩
          | 5, hp => obtain rfl := Option.some.inj hp; exact ⟨.int .i32 y, by simp [Array.getElem?_setIfInBounds]; omega, y, rfl, by simp [Lit.wf, IntKind.min, IntKind.max, IntKind.signed, IntKind.bits]; omega⟩
          | 6, hp => obtain rfl := Option.some.inj hp; exact ⟨.int .i32 z, by simp [Array.getElem?_setIfInBounds]; omega, z, rfl, by simp [Lit.wf, IntKind.min, IntKind.max, IntKind.signed, IntKind.bits]; omega⟩
          | q + 7, hp => cases hp
      · have hq : q < 7 := (List.getElem?_eq_some_iff.1 hp).1
        obtain ⟨v, hv, hpv⟩ := HC.out t (by omega) q p hp
        refine ⟨v, ?_, hpv⟩
        rw [Array.getElem?_setIfInBounds_ne (by omega), Array.getElem?_setIfInBounds_ne (by omega), Array.getElem?_setIfInBounds_ne (by omega), Array.getElem?_setIfInBounds_ne (by omega), Array.getElem?_setIfInBounds_ne (by omega), Array.getElem?_setIfInBounds_ne (by omega), Array.getElem?_setIfInBounds_ne (by omega)]
        exact hv
    · have e : i = n := by omega
      subst e
      have e9 : decide (i < i) = false := by simp
      go_wp2_with fail
      go_ret
      refine ⟨_, _, rfl, .inr ⟨_, rfl, Nat.le_refl _, by unfold maxLen; omega, fun t ht q p hp => ?_⟩, HB.out⟩
      obtain ⟨v, hv, hpv⟩ := HC.out t ht q p hp
      exact ⟨v, by rw [add_none, Nat.zero_add, AT.out.cell]; exact hv, hpv⟩
end Go.Proofs.Ytjcblmbndkacgaa
