/- Proved here: the walk of the law FnAnalyzeSwitchLivenessAtMostOneLive, for every input. -/
import Derived.Test.YtjnffbnipjkibaaASG
import Derived.WalkKit
import Derived.WalkSpells
import Derived.WalkLawsBesides
import Derived.Lib.Hide
import Derived.Lib.SliceRun
import Derived.Deep.RegionWith
import Derived.OwnWalk
import Derived.Laws.OwnMore
import Derived.Deep.CutBlock
import Derived.Deep.DeepCutAuto
namespace Go.Proofs.Ytjnffbnipjkibaa.fnAnalyzeSwitchLivenessAtMostOneLive
open Go.RowKit
set_option linter.unusedSimpArgs false
set_option linter.unusedVariables false

theorem IsRow.below {k : IntKind} {w w1 : World} {a : Option Addr} {len cap : Nat} {zs : List Int} (h : IsRow k w a len cap zs) (hb : Below w.heap.size w w1) : IsRow k w1 a len cap zs := by
  rcases h with h | ⟨x, e1, e2, e3, e4, hc, hw⟩
  · exact .inl h
  · refine .inr ⟨x, e1, e2, e3, e4, fun i hi => ?_, hw⟩
    have := hc i hi
    obtain ⟨b, off, rfl⟩ := spot_none (hc 0 (by omega))
    rw [add_none] at this ⊢
    exact kept hb this
theorem rowK_of {k : IntKind} {w : World} {a : Option Addr} {n : Nat} {zs : List Int} (h : RowV w a n (fun i => .int k (zs.getD i 0))) : RowK k w a n zs := fun i hi => by
  obtain ⟨B, off, e, hc⟩ := h (by omega)
  exact ⟨B, off, e, hc i hi⟩
theorem row255 {w : World} {a : Option Addr} {n c : Nat} {zs : List Int} (h : IsRow .u8 w a n c zs) : ∀ i, 0 ≤ zs.getD i 0 ∧ zs.getD i 0 ≤ 255 := fun i => by
  rcases (len_ints h).2.2 i with h | h
  · exact wf_u8 h
  · simp [List.getD, List.getElem?_eq_none h]
theorem rowI8 {w : World} {a : Option Addr} {n c : Nat} {zs : List Int} (h : IsRow .i8 w a n c zs) : ∀ q, -128 ≤ vz zs n q ∧ vz zs n q ≤ 127 := fun q => by
  unfold vz
  split
  · rcases (len_ints h).2.2 q with h | h
    · exact wf_i8 h
    · simp [List.getD, List.getElem?_eq_none h]
  · omega
section
variable (ti : Bool) (tv : Int) (ks vs : List Int) (m : Nat) (bs : List Int) (p : Nat)
theorem mx_one {k r : Nat} (h : mx ti tv ks vs m k = 1) (hr : k ≤ r) : mx ti tv ks vs m r = 1 := by
  induction r with
  | zero => rw [show k = 0 by omega] at h; exact h
  | succ r ih =>
    by_cases e : k = r + 1
    · rw [← e]; exact h
    · have := ih (by omega)
      unfold mx
      rw [this]
      simp [sOf]
theorem pr_one {q : Nat} (h : pr ti tv ks vs m q = 1) : mx ti tv ks vs m (q + 1) = 1 := by
  unfold pr at h
  unfold mx
  rw [h]
  rcases mx_range ti tv ks vs m q with e | e | e <;> rw [e] <;> simp
theorem pr_after {q : Nat} (h : mx ti tv ks vs m q = 1) : pr ti tv ks vs m q = -1 := by
  unfold pr sOf
  rw [if_pos h]
theorem pz_one {n q r : Nat} (hq : q < n) (hr : r < n) (h1 : pz ti tv ks vs m n q = 1) (h2 : pz ti tv ks vs m n r = 1) : q = r := by
  have key : ∀ a b : Nat, a < b → b < n → pz ti tv ks vs m n a = 1 → pz ti tv ks vs m n b = 1 → False := by
    intro a b hab hb ha hb1
    unfold pz at ha hb1
    split at ha
    · next e =>
      split at hb1
      · next e2 => omega
      · have := mx_one ti tv ks vs m (pr_one ti tv ks vs m hb1) (show b + 1 ≤ n by omega); omega
    · have h3 := pr_one ti tv ks vs m ha
      split at hb1
      · have := mx_one ti tv ks vs m h3 (show a + 1 ≤ n by omega); omega
      · have := pr_after ti tv ks vs m (mx_one ti tv ks vs m h3 (show a + 1 ≤ b by omega)); omega
  rcases Nat.lt_trichotomy q r with h | h | h
  · exact (key q r h hr h1 h2).elim
  · exact h
  · exact (key r q h hq h2 h1).elim
theorem fn_one {n q : Nat} (h : fn ti tv ks vs m bs p n q = 1) : pz ti tv ks vs m n q = 1 := by
  cases q with
  | zero => exact h
  | succ q =>
    unfold fn at h
    split at h
    · omega
    · exact h
theorem fn_uniq {n q r : Nat} (hq : q < n) (hr : r < n) (h1 : fn ti tv ks vs m bs p n q = 1) (h2 : fn ti tv ks vs m bs p n r = 1) : q = r :=
  pz_one ti tv ks vs m hq hr (fn_one ti tv ks vs m bs p h1) (fn_one ti tv ks vs m bs p h2)
theorem static_known {n : Nat} (ht : ti = false) (hk : ∀ q, q < n → kd ks q ≠ 2) (hf : ∀ q, q < n → fl bs p q = false) : ∀ q, q < n → fn ti tv ks vs m bs p n q ≠ 0 := by
  subst ht
  have hp : ∀ q, q < n → pr false tv ks vs m q ≠ 0 := fun q hq => by
    unfold pr sOf
    split
    · omega
    · split
      · omega
      · rw [if_neg (by simp [hk q hq])]
        split <;> omega
  have hm : ∀ k, k ≤ n → mx false tv ks vs m k ≠ 0 := by
    intro k
    induction k with
    | zero => intro _; simp [mx]
    | succ k ih =>
      intro hk2
      unfold mx
      split
      · exact hp k (by omega)
      · exact ih (by omega)
  have hz : ∀ q, q < n → pz false tv ks vs m n q ≠ 0 := fun q hq => by
    unfold pz
    split
    · have := hm n (Nat.le_refl _); omega
    · exact hp q hq
  intro q hq
  cases q with
  | zero => exact hz 0 hq
  | succ q =>
    unfold fn
    rw [if_neg (by simp [hf q (by omega)])]
    exact hz _ hq
end
def La (n : Nat) (st : Nat → Int) (W : World) (l u i : Value) (wr : World) : Prop := ∃ j lc uc : Nat, j ≤ n ∧ uc ≤ j ∧ lc ≤ 1 ∧ l = .int .i64 lc ∧ u = .int .i64 uc ∧ i = .int .i64 j ∧ W = wr ∧ Hid ((lc = 0 ∧ ∀ q, q < j → st q ≠ 1) ∨ (lc = 1 ∧ ∃ q, q < j ∧ st q = 1)) ∧ Hid (uc = 0 ↔ ∀ q, q < j → st q ≠ 0)
def Lb (n : Nat) (ti : Bool) (ks : List Int) (f : Nat → Bool) (W : World) (b i : Value) (wr : World) : Prop := ∃ (j : Nat) (sb : Bool), j ≤ n ∧ b = .bool sb ∧ i = .int .i64 j ∧ W = wr ∧ Hid (sb = true → ti = false ∧ ∀ q, q < j → kd ks q ≠ 2 ∧ f q = false)
theorem la_next {st : Nat → Int} {lc j : Nat} (h : (lc = 0 ∧ ∀ q, q < j → st q ≠ 1) ∨ (lc = 1 ∧ ∃ q, q < j ∧ st q = 1)) (hj : st j ≠ 1) : (lc = 0 ∧ ∀ q, q < j + 1 → st q ≠ 1) ∨ (lc = 1 ∧ ∃ q, q < j + 1 ∧ st q = 1) := by
  rcases h with ⟨h1, h2⟩ | ⟨h1, q, h2, h3⟩
  · refine .inl ⟨h1, fun q hq => ?_⟩
    by_cases e : q = j
    · subst e; exact hj
    · exact h2 q (by omega)
  · exact .inr ⟨h1, q, by omega, h3⟩
theorem all_next {p : Nat → Prop} {j : Nat} (h : ∀ q, q < j → p q) (hj : p j) : ∀ q, q < j + 1 → p q := fun q hq => by
  by_cases e : q = j
  · subst e; exact hj
  · exact h q (by omega)
set_option maxRecDepth 100000 in
set_option maxHeartbeats 16000000 in
theorem walk (a0 : Bool) (a1 : Int) (a2 : Option Addr) (len2 cap2 : Nat) (z2 : List Int) (a3 : Option Addr) (len3 cap3 : Nat) (z3 : List Int) (a4 : Option Addr) (len4 cap4 : Nat) (z4 : List Int) (w : World) (w1 : (Lit.int .i8 a1).wf = true) (w2 : IsRow .u8 w a2 len2 cap2 z2) (w3 : IsRow .i8 w a3 len3 cap3 z3) (w4 : IsRow .u8 w a4 len4 cap4 z4) :
    Calls Try.prog 5 #[.bool a0, .int .i8 a1, .slice a2 len2 cap2, .slice a3 len3 cap3, .slice a4 len4 cap4] w fun e w' => e = .returned (.bool true) ∧ Below w.heap.size w w' := by
  obtain ⟨m2, _, _⟩ := len_ints w2
  obtain ⟨m3, _, _⟩ := len_ints w3
  obtain ⟨m4, _, _⟩ := len_ints w4
  have HZ2 := Lib.hid (row255 w2)
  have HZ4 := Lib.hid (row255 w4)
  have HZ3 := Lib.hid (rowI8 w3)
  have R2 := Lib.hid w2
  have R3 := Lib.hid w3
  have R4 := Lib.hid w4
  have HY := Lib.hid (by14 a0 a1 a2 a3 a4 len2 cap2 len3 cap3 len4 cap4 w m2 m3 m4)
  have HGD := Lib.hid (guards a2 a3 a4 len2 cap2 len3 cap3 len4 cap4 z2 w (rowK_of (rowv_ints w2)) m2 m3 m4 (row255 w2))
  clear w2 w3 w4
  go_enter Try.func5, Try.ntmps5
  go_wp2_with fail
  refine HY.out.mono ?_
  rintro e w' ⟨b, rfl, rfl⟩
  clear HY
  cases b
  · go_wp2_with fail
    go_ret
    exact ⟨rfl, Below.refl _ _⟩
  go_wp2_with fail
  refine HGD.out.mono ?_
  rintro e w' ⟨b, rfl, h4, rfl⟩
  clear HGD
  cases b
  case true =>
    go_wp2_with fail
    go_ret
    exact ⟨rfl, Below.refl _ _⟩
  obtain ⟨h41, h42, h43⟩ := h4 (by simp)
  clear h4
  go_wp2_with fail
  refine (cpU8_any a2 len2 cap2 z2 w R2.out (by omega)).mono ?_
  rintro e wa ⟨b2, d2, rfl, hr2, hb2⟩
  have R3' := Lib.hid (IsRow.below R3.out hb2)
  have R4' := Lib.hid (IsRow.below R4.out hb2)
  have V2 := Lib.hid (rowK_of hr2)
  have BWa := Lib.hid hb2
  clear hr2 hb2 R2 R3 R4
  go_wp2_with fail
  refine (cpI8_any a3 len3 cap3 z3 wa R3'.out (by omega)).mono ?_
  rintro e wb ⟨b3, d3, rfl, hr3, hb3⟩
  have R4 := Lib.hid (IsRow.below R4'.out hb3)
  have V2' := Lib.hid (V2.out.below hb3)
  have V3 := Lib.hid (rowK_of hr3)
  have BWb := Lib.hid (bel2 BWa.out hb3)
  clear hr3 hb3 R3' R4' V2 BWa
  go_wp2_with fail
  refine (cpU8_any a4 len4 cap4 z4 wb R4.out (by omega)).mono ?_
  rintro e w4 ⟨b4, d4, rfl, hr4, hb4⟩
  have HK := Lib.hid (V2'.out.below hb4)
  have HV := Lib.hid (V3.out.below hb4)
  have HB := Lib.hid (rowK_of hr4)
  have BW4 := Lib.hid (bel2 BWb.out hb4)
  clear hr4 hb4 R4 V2' V3 BWb
  go_wp2_with fail
  cases a0
  · refine (bsw a1 b2 len2 d2 z2 b3 len3 d3 z3 b4 len4 d4 z4 w4 h41 h42 h43 HZ2.out HZ4.out HK.out HV.out HB.out).mono ?_
    rintro e w5 ⟨sb, R, tvl, xs, rfl, hT, h0, h1, h2, ho, hc, hb5⟩
    have BW5 := Lib.hid (BW4.out.trans (hb5.mono BW4.out.size))
    have HK5 := Lib.hid (HK.out.below hb5)
    have HV5 := Lib.hid (HV.out.below hb5)
    have HB5 := Lib.hid (HB.out.below hb5)
    have HA := Lib.hid (zana len2 false a1 z2 z3 len3 z4 len4 sb w5 h41 (analyze len2 false a1 z2 z3 len3 z4 len4 sb R tvl xs w5 hT h0 h1 h2 ho hc h41 (wf_i8 w1) HZ3.out))
    clear hT h0 h1 h2 ho hc hb5 HK HV HB
    go_wp2_with fail
    refine HA.out.mono ?_
    rintro e w6 ⟨S1, S2, cs, fs, rfl, hA1, hcs, hA2, hfs, hb6⟩
    have BW6 := Lib.hid (BW5.out.trans (hb6.mono BW5.out.size))
    have HK6 := Lib.hid (HK5.out.below hb6)
    have HV6 := Lib.hid (HV5.out.below hb6)
    have HB6 := Lib.hid (HB5.out.below hb6)
    have A1 := Lib.hid hA1
    have A2 := Lib.hid hA2
    have HCS := Lib.hid hcs
    have HFS := Lib.hid hfs
    have lS1 := hA1.lt
    have lS2 := hA2.lt
    clear hA1 hA2 hcs hfs hb6 HA HK5 HV5 HB5
    go_wp2_with fail
    have HST := Lib.hid (fun (q : Nat) (hq : q < len2) => HCS.out q hq)
    obtain ⟨st, hst⟩ : ∃ st, st = fn false a1 z2 z3 len3 z4 len4 len2 := ⟨_, rfl⟩
    have HR := Lib.hid (show ∀ q, st q = -1 ∨ st q = 0 ∨ st q = 1 from fun q => by rw [hst]; exact fn_range false a1 z2 z3 len3 z4 len4 len2 q)
    have HU := Lib.hid (show ∀ q r, q < len2 → r < len2 → st q = 1 → st r = 1 → q = r from fun q r h1 h2 h3 h4 => fn_uniq false a1 z2 z3 len3 z4 len4 h1 h2 (by rw [← hst]; exact h3) (by rw [← hst]; exact h4))
    have HK9 := Lib.hid (show false = false → (∀ q, q < len2 → kd z2 q ≠ 2) → (∀ q, q < len2 → fl z4 len4 q = false) → ∀ q, q < len2 → st q ≠ 0 from fun h1 h2 h3 => by rw [hst]; exact static_known false a1 z2 z3 len3 z4 len4 h1 h2 h3)
    rw [← hst] at HST HCS
    clear hst HCS
    obtain ⟨WZ, hWZ⟩ : ∃ W, W = w6 := ⟨_, rfl⟩
    subst hWZ
    go_loopw [15, 16, 17] (fun l u i wr => La len2 st WZ l u i wr) (fun l u i _ => len2 - (intOf i).toNat)
    case atStart => exact ⟨0, 0, 0, by omega, by omega, by omega, rfl, rfl, rfl, rfl, Lib.hid (.inl ⟨rfl, fun q hq => absurd hq (by omega)⟩), Lib.hid ⟨fun _ q hq => absurd hq (by omega), fun _ => rfl⟩⟩
    case round =>
      obtain ⟨j, lc, uc, hj, hu, hl, rfl, rfl, rfl, rfl, HL, HUC⟩ := hrel
      by_cases hjn : j < len2
      · have c0 : WZ.cell? ⟨S1, j, none⟩ = some (.int .i8 (st j)) := by rw [A1.out.cell]; exact HST.out j hjn
        have j0 : (0 : Int) ≤ (j : Int) := Int.natCast_nonneg _
        have j1 : (j : Int) < (len2 : Int) := by omega
        rcases HR.out j with h | h | h
        · have HL1 := Lib.hid (la_next HL.out (show st j ≠ 1 by omega))
          have HU1 := Lib.hid (show uc = 0 ↔ ∀ q, q < j + 1 → st q ≠ 0 from HUC.out.trans ⟨fun h1 => all_next (p := fun q => st q ≠ 0) h1 (by omega), fun h1 q hq => h1 q (by omega)⟩)
          rw [h] at c0
          clear h HL HUC
          go_wp2_with fail
          go_roundw
          case rel => exact ⟨j + 1, lc, uc, by omega, by omega, hl, rfl, rfl, by go_num, rfl, HL1, HU1⟩
          case measure => simp [intOf]; omega
        · have HL1 := Lib.hid (la_next HL.out (show st j ≠ 1 by omega))
          have HU1 := Lib.hid (show uc + 1 = 0 ↔ ∀ q, q < j + 1 → st q ≠ 0 from ⟨fun h1 => by omega, fun h1 => absurd h (h1 j (by omega))⟩)
          rw [h] at c0
          clear h HL HUC
          go_wp2_with fail
          go_roundw
          case rel => exact ⟨j + 1, lc, uc + 1, by omega, by omega, hl, rfl, by go_num, by go_num, rfl, HL1, HU1⟩
          case measure => simp [intOf]; omega
        · have hlc : lc = 0 := by
            rcases HL.out with h1 | ⟨_, q, h2, h3⟩
            · exact h1.1
            · have := HU.out q j (by omega) hjn h3 h; omega
          subst hlc
          have HL1 := Lib.hid (show (1 = 0 ∧ ∀ q, q < j + 1 → st q ≠ 1) ∨ (1 = 1 ∧ ∃ q, q < j + 1 ∧ st q = 1) from .inr ⟨rfl, j, by omega, h⟩)
          have HU1 := Lib.hid (show uc = 0 ↔ ∀ q, q < j + 1 → st q ≠ 0 from HUC.out.trans ⟨fun h1 => all_next (p := fun q => st q ≠ 0) h1 (by omega), fun h1 q hq => h1 q (by omega)⟩)
          rw [h] at c0
          clear h HL HUC
          go_wp2_with fail
          go_roundw
          case rel => exact ⟨j + 1, 1, uc, by omega, by omega, by omega, rfl, rfl, by go_num, rfl, HL1, HU1⟩
          case measure => simp [intOf]; omega
      · obtain rfl : j = len2 := by omega
        have hl2 : decide ((1 : Int) < (lc : Int)) = false := by simp; omega
        have hl3 : decide (1 < lc) = false := by simp; omega
        clear hl HL HU
        go_wp2_with fail
        go_loopw [18, 19] (fun b i wr => Lb j false z2 (fl z4 len4) WZ b i wr) (fun b i _ => j - (intOf i).toNat)
        case atStart => exact ⟨0, _, by omega, rfl, rfl, rfl, Lib.hid (fun h => ⟨by first | rfl | (simp at h), fun q hq => absurd hq (by omega)⟩)⟩
        case round =>
          obtain ⟨r, sbb, hr, rfl, rfl, rfl, HB9⟩ := hrel
          by_cases hrn : r < j
          · obtain ⟨B, off, rfl, c0⟩ := HK6.out r hrn
            obtain ⟨z0, z1⟩ := HZ2.out r
            have HKD := Lib.hid (show z2.getD r 0 % 3 = kd z2 r from rfl)
            obtain ⟨z, hzz⟩ : ∃ z, z = z2.getD r 0 := ⟨_, rfl⟩
            rw [← hzz] at c0 z0 z1 HKD
            clear hzz
            have lB : B < WZ.heap.size := World.block_lt_of_cell? _ _ c0
            have q0 : (0 : Int) ≤ (r : Int) := Int.natCast_nonneg _
            have q1 : (r : Int) < (j : Int) := by omega
            have zc := HKD.out
            by_cases hk2 : kd z2 r = 2
            · clear HB9
              go_wp2_with fail
              go_roundw
              case rel => exact ⟨r + 1, false, by omega, rfl, by go_num, rfl, Lib.hid (fun h => by cases h)⟩
              case measure => simp [intOf]; omega
            · have k2 : (kd z2 r == 2) = false := by simp [hk2]
              have HN2 := Lib.hid hk2
              have HAT := Lib.hid (atB b4 len4 d4 r z4 WZ HB6.out (by omega) (by omega))
              have HCB := Lib.hid (fun (W : World) => cbFalls (vz z4 len4 r) (bd z4 len4 r) W rfl (vz_b HZ4.out len4 r).1 (vz_b HZ4.out len4 r).2)
              clear hk2
              cases hfl : fl z4 len4 r
              · have hfl2 : falls (bd z4 len4 r) = false := hfl
                have HB10 := Lib.hid (show sbb = true → false = false ∧ ∀ q, q < r + 1 → kd z2 q ≠ 2 ∧ fl z4 len4 q = false from fun h => ⟨(HB9.out h).1, all_next (p := fun q => kd z2 q ≠ 2 ∧ fl z4 len4 q = false) (HB9.out h).2 ⟨HN2.out, hfl⟩⟩)
                clear HB9 hfl
                go_wp2_with (first | (go_at_call 21; refine HAT.out.mono ?_; rintro e w' ⟨rfl, rfl⟩) | (go_at_call 20; refine (HCB.out _).mono ?_; rintro e w' ⟨rfl, rfl⟩))
                go_roundw
                case rel => exact ⟨r + 1, sbb, by omega, rfl, by go_num, rfl, Lib.hid (fun h => ⟨by first | rfl | exact (HB10.out h).1 | exact absurd (HB10.out h).1 (by simp), (HB10.out h).2⟩)⟩
                case measure => simp [intOf]; omega
              · have hfl2 : falls (bd z4 len4 r) = true := hfl
                clear HB9 hfl
                go_wp2_with (first | (go_at_call 21; refine HAT.out.mono ?_; rintro e w' ⟨rfl, rfl⟩) | (go_at_call 20; refine (HCB.out _).mono ?_; rintro e w' ⟨rfl, rfl⟩))
                go_roundw
                case rel => exact ⟨r + 1, false, by omega, rfl, by go_num, rfl, Lib.hid (fun h => by cases h)⟩
                case measure => simp [intOf]; omega
          · obtain rfl : r = j := by omega
            cases sbb
            · go_wp2_with fail
              go_ret
              exact ⟨rfl, BW6.out⟩
            · have huc : uc = 0 := HUC.out.2 (HK9.out (by first | trivial | exact (HB9.out rfl).1) (fun q hq => ((HB9.out rfl).2 q hq).1) (fun q hq => ((HB9.out rfl).2 q hq).2))
              subst huc
              clear HUC HB9
              go_wp2_with fail
              go_ret
              exact ⟨rfl, BW6.out⟩
  · refine (bswI a1 b2 len2 d2 z2 b3 len3 d3 z3 b4 len4 d4 z4 w4 h41 h42 h43 HZ2.out HZ4.out HK.out HV.out HB.out).mono ?_
    rintro e w5 ⟨sb, R, tvl, xs, rfl, hT, h0, h1, h2, ho, hc, hb5⟩
    have BW5 := Lib.hid (BW4.out.trans (hb5.mono BW4.out.size))
    have HK5 := Lib.hid (HK.out.below hb5)
    have HV5 := Lib.hid (HV.out.below hb5)
    have HB5 := Lib.hid (HB.out.below hb5)
    have HA := Lib.hid (zana len2 true a1 z2 z3 len3 z4 len4 sb w5 h41 (analyze len2 true a1 z2 z3 len3 z4 len4 sb R tvl xs w5 hT h0 h1 h2 ho hc h41 (wf_i8 w1) HZ3.out))
    clear hT h0 h1 h2 ho hc hb5 HK HV HB
    go_wp2_with fail
    refine HA.out.mono ?_
    rintro e w6 ⟨S1, S2, cs, fs, rfl, hA1, hcs, hA2, hfs, hb6⟩
    have BW6 := Lib.hid (BW5.out.trans (hb6.mono BW5.out.size))
    have HK6 := Lib.hid (HK5.out.below hb6)
    have HV6 := Lib.hid (HV5.out.below hb6)
    have HB6 := Lib.hid (HB5.out.below hb6)
    have A1 := Lib.hid hA1
    have A2 := Lib.hid hA2
    have HCS := Lib.hid hcs
    have HFS := Lib.hid hfs
    have lS1 := hA1.lt
    have lS2 := hA2.lt
    clear hA1 hA2 hcs hfs hb6 HA HK5 HV5 HB5
    go_wp2_with fail
    have HST := Lib.hid (fun (q : Nat) (hq : q < len2) => HCS.out q hq)
    obtain ⟨st, hst⟩ : ∃ st, st = fn true a1 z2 z3 len3 z4 len4 len2 := ⟨_, rfl⟩
    have HR := Lib.hid (show ∀ q, st q = -1 ∨ st q = 0 ∨ st q = 1 from fun q => by rw [hst]; exact fn_range true a1 z2 z3 len3 z4 len4 len2 q)
    have HU := Lib.hid (show ∀ q r, q < len2 → r < len2 → st q = 1 → st r = 1 → q = r from fun q r h1 h2 h3 h4 => fn_uniq true a1 z2 z3 len3 z4 len4 h1 h2 (by rw [← hst]; exact h3) (by rw [← hst]; exact h4))
    have HK9 := Lib.hid (show true = false → (∀ q, q < len2 → kd z2 q ≠ 2) → (∀ q, q < len2 → fl z4 len4 q = false) → ∀ q, q < len2 → st q ≠ 0 from fun h1 h2 h3 => by rw [hst]; exact static_known true a1 z2 z3 len3 z4 len4 h1 h2 h3)
    rw [← hst] at HST HCS
    clear hst HCS
    obtain ⟨WZ, hWZ⟩ : ∃ W, W = w6 := ⟨_, rfl⟩
    subst hWZ
    go_loopw [15, 16, 17] (fun l u i wr => La len2 st WZ l u i wr) (fun l u i _ => len2 - (intOf i).toNat)
    case atStart => exact ⟨0, 0, 0, by omega, by omega, by omega, rfl, rfl, rfl, rfl, Lib.hid (.inl ⟨rfl, fun q hq => absurd hq (by omega)⟩), Lib.hid ⟨fun _ q hq => absurd hq (by omega), fun _ => rfl⟩⟩
    case round =>
      obtain ⟨j, lc, uc, hj, hu, hl, rfl, rfl, rfl, rfl, HL, HUC⟩ := hrel
      by_cases hjn : j < len2
      · have c0 : WZ.cell? ⟨S1, j, none⟩ = some (.int .i8 (st j)) := by rw [A1.out.cell]; exact HST.out j hjn
        have j0 : (0 : Int) ≤ (j : Int) := Int.natCast_nonneg _
        have j1 : (j : Int) < (len2 : Int) := by omega
        rcases HR.out j with h | h | h
        · have HL1 := Lib.hid (la_next HL.out (show st j ≠ 1 by omega))
          have HU1 := Lib.hid (show uc = 0 ↔ ∀ q, q < j + 1 → st q ≠ 0 from HUC.out.trans ⟨fun h1 => all_next (p := fun q => st q ≠ 0) h1 (by omega), fun h1 q hq => h1 q (by omega)⟩)
          rw [h] at c0
          clear h HL HUC
          go_wp2_with fail
          go_roundw
          case rel => exact ⟨j + 1, lc, uc, by omega, by omega, hl, rfl, rfl, by go_num, rfl, HL1, HU1⟩
          case measure => simp [intOf]; omega
        · have HL1 := Lib.hid (la_next HL.out (show st j ≠ 1 by omega))
          have HU1 := Lib.hid (show uc + 1 = 0 ↔ ∀ q, q < j + 1 → st q ≠ 0 from ⟨fun h1 => by omega, fun h1 => absurd h (h1 j (by omega))⟩)
          rw [h] at c0
          clear h HL HUC
          go_wp2_with fail
          go_roundw
          case rel => exact ⟨j + 1, lc, uc + 1, by omega, by omega, hl, rfl, by go_num, by go_num, rfl, HL1, HU1⟩
          case measure => simp [intOf]; omega
        · have hlc : lc = 0 := by
            rcases HL.out with h1 | ⟨_, q, h2, h3⟩
            · exact h1.1
            · have := HU.out q j (by omega) hjn h3 h; omega
          subst hlc
          have HL1 := Lib.hid (show (1 = 0 ∧ ∀ q, q < j + 1 → st q ≠ 1) ∨ (1 = 1 ∧ ∃ q, q < j + 1 ∧ st q = 1) from .inr ⟨rfl, j, by omega, h⟩)
          have HU1 := Lib.hid (show uc = 0 ↔ ∀ q, q < j + 1 → st q ≠ 0 from HUC.out.trans ⟨fun h1 => all_next (p := fun q => st q ≠ 0) h1 (by omega), fun h1 q hq => h1 q (by omega)⟩)
          rw [h] at c0
          clear h HL HUC
          go_wp2_with fail
          go_roundw
          case rel => exact ⟨j + 1, 1, uc, by omega, by omega, by omega, rfl, rfl, by go_num, rfl, HL1, HU1⟩
          case measure => simp [intOf]; omega
      · obtain rfl : j = len2 := by omega
        have hl2 : decide ((1 : Int) < (lc : Int)) = false := by simp; omega
        have hl3 : decide (1 < lc) = false := by simp; omega
        clear hl HL HU
        go_wp2_with fail
        go_loopw [18, 19] (fun b i wr => Lb j true z2 (fl z4 len4) WZ b i wr) (fun b i _ => j - (intOf i).toNat)
        case atStart => exact ⟨0, _, by omega, rfl, rfl, rfl, Lib.hid (fun h => ⟨by first | rfl | (simp at h), fun q hq => absurd hq (by omega)⟩)⟩
        case round =>
          obtain ⟨r, sbb, hr, rfl, rfl, rfl, HB9⟩ := hrel
          by_cases hrn : r < j
          · obtain ⟨B, off, rfl, c0⟩ := HK6.out r hrn
            obtain ⟨z0, z1⟩ := HZ2.out r
            have HKD := Lib.hid (show z2.getD r 0 % 3 = kd z2 r from rfl)
            obtain ⟨z, hzz⟩ : ∃ z, z = z2.getD r 0 := ⟨_, rfl⟩
            rw [← hzz] at c0 z0 z1 HKD
            clear hzz
            have lB : B < WZ.heap.size := World.block_lt_of_cell? _ _ c0
            have q0 : (0 : Int) ≤ (r : Int) := Int.natCast_nonneg _
            have q1 : (r : Int) < (j : Int) := by omega
            have zc := HKD.out
            by_cases hk2 : kd z2 r = 2
            · clear HB9
              go_wp2_with fail
              go_roundw
              case rel => exact ⟨r + 1, false, by omega, rfl, by go_num, rfl, Lib.hid (fun h => by cases h)⟩
              case measure => simp [intOf]; omega
            · have k2 : (kd z2 r == 2) = false := by simp [hk2]
              have HN2 := Lib.hid hk2
              have HAT := Lib.hid (atB b4 len4 d4 r z4 WZ HB6.out (by omega) (by omega))
              have HCB := Lib.hid (fun (W : World) => cbFalls (vz z4 len4 r) (bd z4 len4 r) W rfl (vz_b HZ4.out len4 r).1 (vz_b HZ4.out len4 r).2)
              clear hk2
              cases hfl : fl z4 len4 r
              · have hfl2 : falls (bd z4 len4 r) = false := hfl
                have HB10 := Lib.hid (show sbb = true → true = false ∧ ∀ q, q < r + 1 → kd z2 q ≠ 2 ∧ fl z4 len4 q = false from fun h => ⟨(HB9.out h).1, all_next (p := fun q => kd z2 q ≠ 2 ∧ fl z4 len4 q = false) (HB9.out h).2 ⟨HN2.out, hfl⟩⟩)
                clear HB9 hfl
                go_wp2_with (first | (go_at_call 21; refine HAT.out.mono ?_; rintro e w' ⟨rfl, rfl⟩) | (go_at_call 20; refine (HCB.out _).mono ?_; rintro e w' ⟨rfl, rfl⟩))
                go_roundw
                case rel => exact ⟨r + 1, sbb, by omega, rfl, by go_num, rfl, Lib.hid (fun h => ⟨by first | rfl | exact (HB10.out h).1 | exact absurd (HB10.out h).1 (by simp), (HB10.out h).2⟩)⟩
                case measure => simp [intOf]; omega
              · have hfl2 : falls (bd z4 len4 r) = true := hfl
                clear HB9 hfl
                go_wp2_with (first | (go_at_call 21; refine HAT.out.mono ?_; rintro e w' ⟨rfl, rfl⟩) | (go_at_call 20; refine (HCB.out _).mono ?_; rintro e w' ⟨rfl, rfl⟩))
                go_roundw
                case rel => exact ⟨r + 1, false, by omega, rfl, by go_num, rfl, Lib.hid (fun h => by cases h)⟩
                case measure => simp [intOf]; omega
          · obtain rfl : r = j := by omega
            cases sbb
            · go_wp2_with fail
              go_ret
              exact ⟨rfl, BW6.out⟩
            · have huc : uc = 0 := HUC.out.2 (HK9.out (by first | trivial | exact (HB9.out rfl).1) (fun q hq => ((HB9.out rfl).2 q hq).1) (fun q hq => ((HB9.out rfl).2 q hq).2))
              subst huc
              clear HUC HB9
              go_wp2_with fail
              go_ret
              exact ⟨rfl, BW6.out⟩
end Go.Proofs.Ytjnffbnipjkibaa.fnAnalyzeSwitchLivenessAtMostOneLive
