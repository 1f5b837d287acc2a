/- Proved here: the walk of the law FnAnalyzeSwitchLivenessModel, for every input. -/
import Derived.Test.YtjnffbnipjkibaaASG
import Derived.WalkKit
import Derived.WalkSpells
import Derived.WalkLawsBesides
import Derived.Lib.Hide
import Derived.Lib.SliceRun
import Derived.Deep.RegionWith
import Derived.OwnWalk
import Derived.Laws.OwnMore
import Derived.Deep.CutBlock
import Derived.Deep.DeepCutAuto
import Derived.BigQuiet
import Derived.Deep.QuietTactic
import Derived.Deep.RegionHeld3
namespace Go.Proofs.Ytjnffbnipjkibaa.fnAnalyzeSwitchLivenessModel
open Go.RowKit
set_option linter.unusedSimpArgs false
set_option linter.unusedVariables false

theorem IsRow.below {k : IntKind} {w w1 : World} {a : Option Addr} {len cap : Nat} {zs : List Int} (h : IsRow k w a len cap zs) (hb : Below w.heap.size w w1) : IsRow k w1 a len cap zs := by
  rcases h with h | ⟨x, e1, e2, e3, e4, hc, hw⟩
  · exact .inl h
  · refine .inr ⟨x, e1, e2, e3, e4, fun i hi => ?_, hw⟩
    have := hc i hi
    obtain ⟨b, off, rfl⟩ := spot_none (hc 0 (by omega))
    rw [add_none] at this ⊢
    exact kept hb this
theorem rowK_of {k : IntKind} {w : World} {a : Option Addr} {n : Nat} {zs : List Int} (h : RowV w a n (fun i => .int k (zs.getD i 0))) : RowK k w a n zs := fun i hi => by
  obtain ⟨B, off, e, hc⟩ := h (by omega)
  exact ⟨B, off, e, hc i hi⟩
theorem row255 {w : World} {a : Option Addr} {n c : Nat} {zs : List Int} (h : IsRow .u8 w a n c zs) : ∀ i, 0 ≤ zs.getD i 0 ∧ zs.getD i 0 ≤ 255 := fun i => by
  rcases (len_ints h).2.2 i with h | h
  · exact wf_u8 h
  · simp [List.getD, List.getElem?_eq_none h]
theorem rowI8 {w : World} {a : Option Addr} {n c : Nat} {zs : List Int} (h : IsRow .i8 w a n c zs) : ∀ q, -128 ≤ vz zs n q ∧ vz zs n q ≤ 127 := fun q => by
  unfold vz
  split
  · rcases (len_ints h).2.2 q with h | h
    · exact wf_i8 h
    · simp [List.getD, List.getElem?_eq_none h]
  · omega
section
variable (ti : Bool) (tv : Int) (ks vs : List Int) (m : Nat) (bs : List Int) (p : Nat)
theorem mx_one {k r : Nat} (h : mx ti tv ks vs m k = 1) (hr : k ≤ r) : mx ti tv ks vs m r = 1 := by
  induction r with
  | zero => rw [show k = 0 by omega] at h; exact h
  | succ r ih =>
    by_cases e : k = r + 1
    · rw [← e]; exact h
    · have := ih (by omega)
      unfold mx
      rw [this]
      simp [sOf]
theorem pr_one {q : Nat} (h : pr ti tv ks vs m q = 1) : mx ti tv ks vs m (q + 1) = 1 := by
  unfold pr at h
  unfold mx
  rw [h]
  rcases mx_range ti tv ks vs m q with e | e | e <;> rw [e] <;> simp
theorem pr_after {q : Nat} (h : mx ti tv ks vs m q = 1) : pr ti tv ks vs m q = -1 := by
  unfold pr sOf
  rw [if_pos h]
theorem pz_one {n q r : Nat} (hq : q < n) (hr : r < n) (h1 : pz ti tv ks vs m n q = 1) (h2 : pz ti tv ks vs m n r = 1) : q = r := by
  have key : ∀ a b : Nat, a < b → b < n → pz ti tv ks vs m n a = 1 → pz ti tv ks vs m n b = 1 → False := by
    intro a b hab hb ha hb1
    unfold pz at ha hb1
    split at ha
    · next e =>
      split at hb1
      · next e2 => omega
      · have := mx_one ti tv ks vs m (pr_one ti tv ks vs m hb1) (show b + 1 ≤ n by omega); omega
    · have h3 := pr_one ti tv ks vs m ha
      split at hb1
      · have := mx_one ti tv ks vs m h3 (show a + 1 ≤ n by omega); omega
      · have := pr_after ti tv ks vs m (mx_one ti tv ks vs m h3 (show a + 1 ≤ b by omega)); omega
  rcases Nat.lt_trichotomy q r with h | h | h
  · exact (key q r h hr h1 h2).elim
  · exact h
  · exact (key r q h hq h2 h1).elim
theorem fn_one {n q : Nat} (h : fn ti tv ks vs m bs p n q = 1) : pz ti tv ks vs m n q = 1 := by
  cases q with
  | zero => exact h
  | succ q =>
    unfold fn at h
    split at h
    · omega
    · exact h
theorem fn_uniq {n q r : Nat} (hq : q < n) (hr : r < n) (h1 : fn ti tv ks vs m bs p n q = 1) (h2 : fn ti tv ks vs m bs p n r = 1) : q = r :=
  pz_one ti tv ks vs m hq hr (fn_one ti tv ks vs m bs p h1) (fn_one ti tv ks vs m bs p h2)
theorem static_known {n : Nat} (ht : ti = false) (hk : ∀ q, q < n → kd ks q ≠ 2) (hf : ∀ q, q < n → fl bs p q = false) : ∀ q, q < n → fn ti tv ks vs m bs p n q ≠ 0 := by
  subst ht
  have hp : ∀ q, q < n → pr false tv ks vs m q ≠ 0 := fun q hq => by
    unfold pr sOf
    split
    · omega
    · split
      · omega
      · rw [if_neg (by simp [hk q hq])]
        split <;> omega
  have hm : ∀ k, k ≤ n → mx false tv ks vs m k ≠ 0 := by
    intro k
    induction k with
    | zero => intro _; simp [mx]
    | succ k ih =>
      intro hk2
      unfold mx
      split
      · exact hp k (by omega)
      · exact ih (by omega)
  have hz : ∀ q, q < n → pz false tv ks vs m n q ≠ 0 := fun q hq => by
    unfold pz
    split
    · have := hm n (Nat.le_refl _); omega
    · exact hp q hq
  intro q hq
  cases q with
  | zero => exact hz 0 hq
  | succ q =>
    unfold fn
    rw [if_neg (by simp [hf q (by omega)])]
    exact hz _ hq
end

def P1 (n : Nat) (ti : Bool) (tv : Int) (ks vs : List Int) (m S : Nat) (W : World) (sn un d i : Value) (wr : World) : Prop := ∃ (j : Nat) (ub : Bool) (cs : Array Value), j ≤ n ∧ sn = .bool (decide (mx ti tv ks vs m j = 1)) ∧ un = .bool ub ∧ d = .int .i64 (df ks j) ∧ i = .int .i64 j ∧ Hid (At wr S 38 cs) ∧ Hid (cs.size = n) ∧ Hid (∀ q, q < j → cs[q]? = some (.int .i8 (pr ti tv ks vs m q))) ∧ Hid (Below S W wr) ∧ Hid (mx ti tv ks vs m j ≠ 1 → (ub = true ↔ mx ti tv ks vs m j = 0))
def CD (n : Nat) (ti : Bool) (tv : Int) (ks vs : List Int) (m S : Nat) (W : World) (s15 : Value) (wx : World) : Prop := ∃ cs, s15 = .slice (some ⟨S, 0, none⟩) n n ∧ Hid (At wx S 38 cs) ∧ Hid (cs.size = n) ∧ Hid (∀ q, q < n → cs[q]? = some (.int .i8 (pz ti tv ks vs m n q))) ∧ Hid (Below S W wx)
def P3 (n : Nat) (st : Nat → Int) (S SF : Nat) (pc : Array Value) (W : World) (i : Value) (wr : World) : Prop := ∃ (q : Nat) (cf : Array Value), q ≤ n ∧ i = .int .i64 q ∧ Hid (At wr S 38 pc) ∧ Hid (At wr SF 38 cf) ∧ Hid (cf.size = n) ∧ Hid (∀ r, r < q → cf[r]? = some (.int .i8 (st r))) ∧ Hid (Below SF W wr)
def P4 (n : Nat) (W : World) (i : Value) (wr : World) : Prop := ∃ r : Nat, r ≤ n ∧ i = .int .i64 r ∧ Hid (Below W.heap.size W wr)
theorem pz_put {ti : Bool} {tv : Int} {ks vs : List Int} {m n k : Nat} {x : Int} {cs : Array Value} (hd : df ks n = (k : Int)) (hx : x = -(mx ti tv ks vs m n)) (hs : cs.size = n) (hk : k < n) (h : ∀ q, q < n → cs[q]? = some (.int .i8 (pr ti tv ks vs m q))) (q : Nat) (hq : q < n) : (cs.setIfInBounds k (.int .i8 x))[q]? = some (.int .i8 (pz ti tv ks vs m n q)) := by
  subst hx
  unfold pz
  by_cases e : q = k
  · subst e
    rw [if_pos hd.symm, Array.getElem?_setIfInBounds_self_of_lt (by omega)]
  · rw [if_neg (by rw [hd]; omega), Array.getElem?_setIfInBounds_ne (Ne.symm e)]
    exact h q hq
theorem cs_next {st : Nat → Int} {cs : Array Value} {n j : Nat} (hs : cs.size = n) (hj : j < n) (h : ∀ q, q < j → cs[q]? = some (.int .i8 (st q))) (x : Int) (hx : x = st j) : ∀ q, q < j + 1 → (cs.setIfInBounds j (.int .i8 x))[q]? = some (.int .i8 (st q)) := fun q hq => by
  subst hx
  by_cases e : q = j
  · subst e; rw [Array.getElem?_setIfInBounds_self_of_lt (by omega)]
  · rw [Array.getElem?_setIfInBounds_ne (Ne.symm e)]; exact h q (by omega)
set_option maxRecDepth 100000 in
set_option maxHeartbeats 16000000 in
theorem walk (a0 : Bool) (a1 : Int) (a2 : Option Addr) (len2 cap2 : Nat) (z2 : List Int) (a3 : Option Addr) (len3 cap3 : Nat) (z3 : List Int) (a4 : Option Addr) (len4 cap4 : Nat) (z4 : List Int) (w : World) (w1 : (Lit.int .i8 a1).wf = true) (w2 : IsRow .u8 w a2 len2 cap2 z2) (w3 : IsRow .i8 w a3 len3 cap3 z3) (w4 : IsRow .u8 w a4 len4 cap4 z4) :
    Calls Try.prog 6 #[.bool a0, .int .i8 a1, .slice a2 len2 cap2, .slice a3 len3 cap3, .slice a4 len4 cap4] w fun e w' => e = .returned (.bool true) ∧ Below w.heap.size w w' := by
  obtain ⟨m2, _, _⟩ := len_ints w2
  obtain ⟨m3, _, _⟩ := len_ints w3
  obtain ⟨m4, _, _⟩ := len_ints w4
  have HZ2 := Lib.hid (row255 w2)
  have HZ4 := Lib.hid (row255 w4)
  have HZ3 := Lib.hid (rowI8 w3)
  have R2 := Lib.hid w2
  have R3 := Lib.hid w3
  have R4 := Lib.hid w4
  have HY := Lib.hid (by22 a0 a1 a2 a3 a4 len2 cap2 len3 cap3 len4 cap4 w m2 m3 m4)
  have HGD := Lib.hid (guards a2 a3 a4 len2 cap2 len3 cap3 len4 cap4 z2 w (rowK_of (rowv_ints w2)) m2 m3 m4 (row255 w2))
  clear w2 w3 w4
  go_enter Try.func6, Try.ntmps6
  go_wp2_with fail
  refine HY.out.mono ?_
  rintro e w' ⟨b, rfl, rfl⟩
  clear HY
  cases b
  · go_wp2_with fail
    go_ret
    exact ⟨rfl, Below.refl _ _⟩
  go_wp2_with fail
  refine HGD.out.mono ?_
  rintro e w' ⟨b, rfl, h4, rfl⟩
  clear HGD
  cases b
  case true =>
    go_wp2_with fail
    go_ret
    exact ⟨rfl, Below.refl _ _⟩
  obtain ⟨h41, h42, h43⟩ := h4 (by simp)
  clear h4
  go_wp2_with fail
  refine (cpU8_any a2 len2 cap2 z2 w R2.out (by omega)).mono ?_
  rintro e wa ⟨b2, d2, rfl, hr2, hb2⟩
  have R3' := Lib.hid (IsRow.below R3.out hb2)
  have R4' := Lib.hid (IsRow.below R4.out hb2)
  have V2 := Lib.hid (rowK_of hr2)
  have BWa := Lib.hid hb2
  clear hr2 hb2 R2 R3 R4
  go_wp2_with fail
  refine (cpI8_any a3 len3 cap3 z3 wa R3'.out (by omega)).mono ?_
  rintro e wb ⟨b3, d3, rfl, hr3, hb3⟩
  have R4 := Lib.hid (IsRow.below R4'.out hb3)
  have V2' := Lib.hid (V2.out.below hb3)
  have V3 := Lib.hid (rowK_of hr3)
  have BWb := Lib.hid (bel2 BWa.out hb3)
  clear hr3 hb3 R3' R4' V2 BWa
  go_wp2_with fail
  refine (cpU8_any a4 len4 cap4 z4 wb R4.out (by omega)).mono ?_
  rintro e w4 ⟨b4, d4, rfl, hr4, hb4⟩
  have HK := Lib.hid (V2'.out.below hb4)
  have HV := Lib.hid (V3.out.below hb4)
  have HB := Lib.hid (rowK_of hr4)
  have BW4 := Lib.hid (bel2 BWb.out hb4)
  clear hr4 hb4 R4 V2' V3 BWb
  go_wp2_with fail
  cases a0
  · refine (bsw a1 b2 len2 d2 z2 b3 len3 d3 z3 b4 len4 d4 z4 w4 h41 h42 h43 HZ2.out HZ4.out HK.out HV.out HB.out).mono ?_
    rintro e w5 ⟨sb, R, tvl, xs, rfl, hT, h0, h1, h2, ho, hc, hb5⟩
    have BW5 := Lib.hid (BW4.out.trans (hb5.mono BW4.out.size))
    have HK5 := Lib.hid (HK.out.below hb5)
    have HV5 := Lib.hid (HV.out.below hb5)
    have HB5 := Lib.hid (HB.out.below hb5)
    have HA := Lib.hid (zana len2 false a1 z2 z3 len3 z4 len4 sb w5 h41 (analyze len2 false a1 z2 z3 len3 z4 len4 sb R tvl xs w5 hT h0 h1 h2 ho hc h41 (wf_i8 w1) HZ3.out))
    clear hT h0 h1 h2 ho hc hb5 HK HV HB
    go_wp2_with fail
    refine HA.out.mono ?_
    rintro e w6 ⟨S1, S2, cs, fs, rfl, hA1, hcs, hA2, hfs, hb6⟩
    have BW6 := Lib.hid (BW5.out.trans (hb6.mono BW5.out.size))
    have HK6 := Lib.hid (HK5.out.below hb6)
    have HV6 := Lib.hid (HV5.out.below hb6)
    have HB6 := Lib.hid (HB5.out.below hb6)
    have A1 := Lib.hid hA1
    have A2 := Lib.hid hA2
    have HCS := Lib.hid hcs
    have HFS := Lib.hid hfs
    have lS1 := hA1.lt
    have lS2 := hA2.lt
    clear hA1 hA2 hcs hfs hb6 HA HK5 HV5 HB5
    have hmk := made (P := Try.prog) (t := 39) (e := 38) (z := .int .i8 0) (sz := 1) (by_ := 1) Try.underlying39 (by kernel_rfl) w6 len2 (by omega) (by omega)
    rw [Nat.mul_one] at hmk
    go_wp2_with fail
    clear hmk
    go_loopw [16, 17, 18, 19] (fun sn un d i wr => P1 len2 false a1 z2 z3 len3 w6.heap.size w6 sn un d i wr) (fun sn un d i _ => len2 - (intOf i).toNat)
    case atStart => exact ⟨0, false, _, by omega, by simp [mx], rfl, rfl, rfl, Lib.hid (At.new w6 38 (madeCells #[.int .i8 0] len2)), Lib.hid (by simp [size_madeCells]), Lib.hid (fun q hq => absurd hq (by omega)), Lib.hid ((Below.refl _ _).alloc (Nat.le_refl _) _), Lib.hid (by simp [mx])⟩
    case round =>
      obtain ⟨j, ub, ps, hj, rfl, rfl, rfl, rfl, AT, HZ, HP, HL, HU⟩ := hrel
      have BW7 := Lib.hid (show Below w6.heap.size w6 wr from HL.out)
      by_cases hjn : j < len2
      · obtain ⟨B, off, rfl, c0⟩ := (HK6.out.below HL.out) j hjn
        obtain ⟨z0, z1⟩ := HZ2.out j
        have HKD := Lib.hid (show z2.getD j 0 % 3 = kd z2 j from rfl)
        obtain ⟨z, hzz⟩ : ∃ z, z = z2.getD j 0 := ⟨_, rfl⟩
        rw [← hzz] at c0 z0 z1 HKD
        clear hzz
        have lB : B < wr.heap.size := World.block_lt_of_cell? _ _ c0
        have q0 : (0 : Int) ≤ (j : Int) := Int.natCast_nonneg _
        have q1 : (j : Int) < (len2 : Int) := by omega
        have hz := HZ.out
        obtain ⟨u, hu⟩ : ∃ u, ps[j]? = some u := ⟨_, Array.getElem?_eq_getElem (by omega)⟩
        have s0 : wr.cell? ⟨w6.heap.size, j, none⟩ = some u := by rw [AT.out.cell]; exact hu
        have sf := AT.out.frozen j
        have lS := AT.out.lt
        have zc := HKD.out
        have k3 : kd z2 j = 0 ∨ kd z2 j = 1 ∨ kd z2 j = 2 := by unfold kd; omega
        have HI8 := Lib.hid (fun (W : World) (hb : Below w6.heap.size w6 W) => atI8 b3 len3 d3 j z3 W (HV6.out.below hb) (by omega) (by omega))
        clear hu hz
        rcases mx_range false a1 z2 z3 len3 j with hM | hM | hM
        · rcases k3 with hk | hk | hk
          · rw [hk] at zc
            go_wp2_with (fail)
            go_roundw
            case measure => simp [intOf]; omega
            case rel => exact ⟨j + 1, ub, ps.setIfInBounds j (.int .i8 (-1)), by omega, by simp [mx, sOf, hM, hk], rfl, by simp [df, hk], by go_num, Lib.hid (At.set AT.out j _), Lib.hid (by simp [HZ.out]), Lib.hid (cs_next HZ.out hjn HP.out (-1) (by simp [pr, sOf, hM, hk])), Lib.hid (HL.out.setCell (Nat.le_refl _) _), Lib.hid (by have h9 := HU.out (by rw [hM]; decide); simpa [mx, sOf, hM, hk] using h9)⟩
          · rw [hk] at zc
            by_cases hv : vz z3 len3 j = a1
            · have hv2 : (vz z3 len3 j == a1) = true := by simp [hv]
              go_wp2_with (first | (go_at_call 23; refine (HI8.out _ HL.out).mono ?_; rintro e w' ⟨rfl, rfl⟩))
              go_roundw
              case measure => simp [intOf]; omega
              case rel => exact ⟨j + 1, ub, ps.setIfInBounds j (.int .i8 (1)), by omega, by simp [mx, sOf, hM, hk, hv], rfl, by simp [df, hk], by go_num, Lib.hid (At.set AT.out j _), Lib.hid (by simp [HZ.out]), Lib.hid (cs_next HZ.out hjn HP.out (1) (by simp [pr, sOf, hM, hk, hv])), Lib.hid (HL.out.setCell (Nat.le_refl _) _), Lib.hid (by simp [mx, sOf, hM, hk, hv])⟩
            · have hv2 : (vz z3 len3 j == a1) = false := by simp [hv]
              go_wp2_with (first | (go_at_call 23; refine (HI8.out _ HL.out).mono ?_; rintro e w' ⟨rfl, rfl⟩))
              go_roundw
              case measure => simp [intOf]; omega
              case rel => exact ⟨j + 1, ub, ps.setIfInBounds j (.int .i8 (-1)), by omega, by simp [mx, sOf, hM, hk, hv], rfl, by simp [df, hk], by go_num, Lib.hid (At.set AT.out j _), Lib.hid (by simp [HZ.out]), Lib.hid (cs_next HZ.out hjn HP.out (-1) (by simp [pr, sOf, hM, hk, hv])), Lib.hid (HL.out.setCell (Nat.le_refl _) _), Lib.hid (by have h9 := HU.out (by rw [hM]; decide); simpa [mx, sOf, hM, hk, hv] using h9)⟩
          · rw [hk] at zc
            go_wp2_with (fail)
            go_roundw
            case measure => simp [intOf]; omega
            case rel => exact ⟨j + 1, true, ps.setIfInBounds j (.int .i8 (0)), by omega, by simp [mx, sOf, hM, hk], rfl, by simp [df, hk], by go_num, Lib.hid (At.set AT.out j _), Lib.hid (by simp [HZ.out]), Lib.hid (cs_next HZ.out hjn HP.out (0) (by simp [pr, sOf, hM, hk])), Lib.hid (HL.out.setCell (Nat.le_refl _) _), Lib.hid (by simp [mx, sOf, hM, hk])⟩
        · rcases k3 with hk | hk | hk
          · rw [hk] at zc
            go_wp2_with (fail)
            go_roundw
            case measure => simp [intOf]; omega
            case rel => exact ⟨j + 1, ub, ps.setIfInBounds j (.int .i8 (-1)), by omega, by simp [mx, sOf, hM, hk], rfl, by simp [df, hk], by go_num, Lib.hid (At.set AT.out j _), Lib.hid (by simp [HZ.out]), Lib.hid (cs_next HZ.out hjn HP.out (-1) (by simp [pr, sOf, hM, hk])), Lib.hid (HL.out.setCell (Nat.le_refl _) _), Lib.hid (by have h9 := HU.out (by rw [hM]; decide); simpa [mx, sOf, hM, hk] using h9)⟩
          · rw [hk] at zc
            by_cases hv : vz z3 len3 j = a1
            · have hv2 : (vz z3 len3 j == a1) = true := by simp [hv]
              go_wp2_with (first | (go_at_call 23; refine (HI8.out _ HL.out).mono ?_; rintro e w' ⟨rfl, rfl⟩))
              go_roundw
              case measure => simp [intOf]; omega
              case rel => exact ⟨j + 1, ub, ps.setIfInBounds j (.int .i8 (1)), by omega, by simp [mx, sOf, hM, hk, hv], rfl, by simp [df, hk], by go_num, Lib.hid (At.set AT.out j _), Lib.hid (by simp [HZ.out]), Lib.hid (cs_next HZ.out hjn HP.out (1) (by simp [pr, sOf, hM, hk, hv])), Lib.hid (HL.out.setCell (Nat.le_refl _) _), Lib.hid (by simp [mx, sOf, hM, hk, hv])⟩
            · have hv2 : (vz z3 len3 j == a1) = false := by simp [hv]
              go_wp2_with (first | (go_at_call 23; refine (HI8.out _ HL.out).mono ?_; rintro e w' ⟨rfl, rfl⟩))
              go_roundw
              case measure => simp [intOf]; omega
              case rel => exact ⟨j + 1, ub, ps.setIfInBounds j (.int .i8 (-1)), by omega, by simp [mx, sOf, hM, hk, hv], rfl, by simp [df, hk], by go_num, Lib.hid (At.set AT.out j _), Lib.hid (by simp [HZ.out]), Lib.hid (cs_next HZ.out hjn HP.out (-1) (by simp [pr, sOf, hM, hk, hv])), Lib.hid (HL.out.setCell (Nat.le_refl _) _), Lib.hid (by have h9 := HU.out (by rw [hM]; decide); simpa [mx, sOf, hM, hk, hv] using h9)⟩
          · rw [hk] at zc
            go_wp2_with (fail)
            go_roundw
            case measure => simp [intOf]; omega
            case rel => exact ⟨j + 1, true, ps.setIfInBounds j (.int .i8 (0)), by omega, by simp [mx, sOf, hM, hk], rfl, by simp [df, hk], by go_num, Lib.hid (At.set AT.out j _), Lib.hid (by simp [HZ.out]), Lib.hid (cs_next HZ.out hjn HP.out (0) (by simp [pr, sOf, hM, hk])), Lib.hid (HL.out.setCell (Nat.le_refl _) _), Lib.hid (by simp [mx, sOf, hM, hk])⟩
        · rcases k3 with hk | hk | hk
          · rw [hk] at zc
            go_wp2_with (fail)
            go_roundw
            case measure => simp [intOf]; omega
            case rel => exact ⟨j + 1, ub, ps.setIfInBounds j (.int .i8 (-1)), by omega, by simp [mx, sOf, hM, hk], rfl, by simp [df, hk], by go_num, Lib.hid (At.set AT.out j _), Lib.hid (by simp [HZ.out]), Lib.hid (cs_next HZ.out hjn HP.out (-1) (by simp [pr, sOf, hM, hk])), Lib.hid (HL.out.setCell (Nat.le_refl _) _), Lib.hid (by simp [mx, sOf, hM, hk])⟩
          · rw [hk] at zc
            go_wp2_with (fail)
            go_roundw
            case measure => simp [intOf]; omega
            case rel => exact ⟨j + 1, ub, ps.setIfInBounds j (.int .i8 (-1)), by omega, by simp [mx, sOf, hM, hk], rfl, by simp [df, hk], by go_num, Lib.hid (At.set AT.out j _), Lib.hid (by simp [HZ.out]), Lib.hid (cs_next HZ.out hjn HP.out (-1) (by simp [pr, sOf, hM, hk])), Lib.hid (HL.out.setCell (Nat.le_refl _) _), Lib.hid (by simp [mx, sOf, hM, hk])⟩
          · rw [hk] at zc
            go_wp2_with (fail)
            go_roundw
            case measure => simp [intOf]; omega
            case rel => exact ⟨j + 1, ub, ps.setIfInBounds j (.int .i8 (-1)), by omega, by simp [mx, sOf, hM, hk], rfl, by simp [df, hk], by go_num, Lib.hid (At.set AT.out j _), Lib.hid (by simp [HZ.out]), Lib.hid (cs_next HZ.out hjn HP.out (-1) (by simp [pr, sOf, hM, hk])), Lib.hid (HL.out.setCell (Nat.le_refl _) _), Lib.hid (by simp [mx, sOf, hM, hk])⟩
      · obtain rfl : j = len2 := by omega
        go_upto_if 107 with (fail)
        go_cut [15, 16, 17, 18] from 106 to 118 (fun s15 s16 s17 s18 wx => CD j false a1 z2 z3 len3 w6.heap.size w6 s15 wx)
        case first =>
          rcases df_range z2 j with hd | ⟨k, hkn, hd, hk0⟩
          · have HD := Lib.hid hd
            go_wp2_with fail
            go_meet
            exact ⟨ps, rfl, AT, HZ, Lib.hid (fun q hq => by rw [show pz false a1 z2 z3 len3 j q = pr false a1 z2 z3 len3 q from by unfold pz; rw [if_neg (by rw [HD.out]; omega)]]; exact HP.out q hq), HL⟩
          · have hz := HZ.out
            obtain ⟨u, hu⟩ : ∃ u, ps[k]? = some u := ⟨_, Array.getElem?_eq_getElem (by omega)⟩
            have s0 : wr.cell? ⟨w6.heap.size, k, none⟩ = some u := by rw [AT.out.cell]; exact hu
            have sf := AT.out.frozen k
            have lS := AT.out.lt
            have k0 : (0 : Int) ≤ (k : Int) := Int.natCast_nonneg _
            have k1 : (k : Int) < (j : Int) := by omega
            clear hu hz
            rcases mx_range false a1 z2 z3 len3 j with hM | hM | hM
            · obtain rfl : ub = false := by
                have h9 := HU.out (by rw [hM]; decide)
                cases ub
                · rfl
                · exact absurd (h9.1 rfl) (by rw [hM]; decide)
              go_wp2_with fail
              go_meet
              exact ⟨_, rfl, Lib.hid (At.set AT.out k _), Lib.hid (by simp [HZ.out]), Lib.hid (fun q hq => pz_put hd (by simp [hM]) HZ.out hkn HP.out q hq), Lib.hid (HL.out.setCell (Nat.le_refl _) _)⟩
            · obtain rfl : ub = true := (HU.out (by rw [hM]; decide)).2 hM
              go_wp2_with fail
              go_meet
              exact ⟨_, rfl, Lib.hid (At.set AT.out k _), Lib.hid (by simp [HZ.out]), Lib.hid (fun q hq => pz_put hd (by simp [hM]) HZ.out hkn HP.out q hq), Lib.hid (HL.out.setCell (Nat.le_refl _) _)⟩
            · go_wp2_with fail
              go_meet
              exact ⟨_, rfl, Lib.hid (At.set AT.out k _), Lib.hid (by simp [HZ.out]), Lib.hid (fun q hq => pz_put hd (by simp [hM]) HZ.out hkn HP.out q hq), Lib.hid (HL.out.setCell (Nat.le_refl _) _)⟩
        case rest =>
        obtain ⟨pc, rfl, AT2, HZ2', HP2, HL2⟩ := hcut
        rename World => wc
        clear AT HZ HP HL HU BW7
        have hmk2 := made (P := Try.prog) (t := 39) (e := 38) (z := .int .i8 0) (sz := 1) (by_ := 1) Try.underlying39 (by kernel_rfl) wc j (by omega) (by omega)
        rw [Nat.mul_one] at hmk2
        go_wp2_with fail
        clear hmk2
        go_loopw [22] (fun i wr => P3 j (fn false a1 z2 z3 len3 z4 len4 j) w6.heap.size wc.heap.size pc wc i wr) (fun i _ => j - (intOf i).toNat)
        case atStart => exact ⟨0, _, by omega, rfl, Lib.hid (AT2.out.alloc _), Lib.hid (At.new wc 38 (madeCells #[.int .i8 0] j)), Lib.hid (by simp [size_madeCells]), Lib.hid (fun q hq => absurd hq (by omega)), Lib.hid ((Below.refl _ _).alloc (Nat.le_refl _) _)⟩
        case round =>
          obtain ⟨q, cf, hq, rfl, ATP, AF, HF9, HFN, HL3⟩ := hrel
          have lWC : w6.heap.size < wc.heap.size := AT2.out.lt
          by_cases hqj : q < j
          · cases q with
            | zero =>
              have lS := ATP.out.lt
              have lF := AF.out.lt
              have hz9 := HF9.out
              have hzp := HZ2'.out
              obtain ⟨u, hu⟩ : ∃ u, cf[0]? = some u := ⟨_, Array.getElem?_eq_getElem (by omega)⟩
              have s0 : wr.cell? ⟨wc.heap.size, 0, none⟩ = some u := by rw [AF.out.cell]; exact hu
              have sf := AF.out.frozen (0)
              have s1 : wr.cell? ⟨w6.heap.size, 0, none⟩ = some (.int .i8 (pz false a1 z2 z3 len3 j (0))) := by rw [ATP.out.cell]; exact HP2.out (0) (by omega)
              clear hu hz9 hzp
              go_wp2_with fail
              go_roundw
              case measure => simp [intOf]; omega
              case rel => exact ⟨0 + 1, cf.setIfInBounds 0 (.int .i8 (pz false a1 z2 z3 len3 j 0)), by omega, by go_num, Lib.hid (At.far ATP.out (by simp; omega) _), Lib.hid (At.set AF.out 0 _), Lib.hid (by simp [HF9.out]), Lib.hid (cs_next (st := fn false a1 z2 z3 len3 z4 len4 j) HF9.out (by omega) HFN.out (pz false a1 z2 z3 len3 j 0) (by rfl)), Lib.hid (HL3.out.setCell (by simp) _)⟩
            | succ t =>
              have lS := ATP.out.lt
              have lF := AF.out.lt
              have hz9 := HF9.out
              have hzp := HZ2'.out
              obtain ⟨u, hu⟩ : ∃ u, cf[t + 1]? = some u := ⟨_, Array.getElem?_eq_getElem (by omega)⟩
              have s0 : wr.cell? ⟨wc.heap.size, t + 1, none⟩ = some u := by rw [AF.out.cell]; exact hu
              have sf := AF.out.frozen (t + 1)
              have s1 : wr.cell? ⟨w6.heap.size, t + 1, none⟩ = some (.int .i8 (pz false a1 z2 z3 len3 j (t + 1))) := by rw [ATP.out.cell]; exact HP2.out (t + 1) (by omega)
              clear hu hz9 hzp
              have r0 : wr.cell? ⟨wc.heap.size, t, none⟩ = some (.int .i8 (fn false a1 z2 z3 len3 z4 len4 j t)) := by rw [AF.out.cell]; exact HFN.out t (by omega)
              have t0 : (0 : Int) ≤ (t : Int) := Int.natCast_nonneg _
              have t1 : (t : Int) + 1 < (j : Int) := by omega
              have t2 : (0 : Int) < (t : Int) + 1 := by omega
              have hB9 := HL2.out.trans (HL3.out.mono (Nat.le_of_lt lWC))
              have HAT := Lib.hid (atB b4 len4 d4 t z4 wr (HB6.out.below hB9) (by omega) (by omega))
              have HCB := Lib.hid (fun (W : World) => cbFalls (vz z4 len4 t) (bd z4 len4 t) W rfl (vz_b HZ4.out len4 t).1 (vz_b HZ4.out len4 t).2)
              clear hB9
              have HEQ := Lib.hid (show fn false a1 z2 z3 len3 z4 len4 j (t + 1) = if fl z4 len4 t = true ∧ fn false a1 z2 z3 len3 z4 len4 j t ≠ -1 then 0 else pz false a1 z2 z3 len3 j (t + 1) from rfl)
              obtain ⟨x, hx⟩ : ∃ x, x = fn false a1 z2 z3 len3 z4 len4 j t := ⟨_, rfl⟩
              rw [← hx] at r0 HEQ
              clear hx
              cases hfl : fl z4 len4 t
              · have hfl2 : falls (bd z4 len4 t) = false := hfl
                have HFL := Lib.hid hfl
                clear hfl
                go_wp2_with (first | (go_at_call 21; refine HAT.out.mono ?_; rintro e w' ⟨rfl, rfl⟩) | (go_at_call 20; refine (HCB.out _).mono ?_; rintro e w' ⟨rfl, rfl⟩))
                go_roundw
                case measure => simp [intOf]; omega
                case rel => exact ⟨t + 1 + 1, cf.setIfInBounds (t + 1) (.int .i8 (pz false a1 z2 z3 len3 j (t + 1))), by omega, by go_num, Lib.hid (At.far ATP.out (by simp; omega) _), Lib.hid (At.set AF.out (t + 1) _), Lib.hid (by simp [HF9.out]), Lib.hid (cs_next (st := fn false a1 z2 z3 len3 z4 len4 j) HF9.out (by omega) HFN.out (pz false a1 z2 z3 len3 j (t + 1)) (by rw [HEQ.out]; rw [HFL.out]; simp)), Lib.hid (HL3.out.setCell (by simp) _)⟩
              · have hfl2 : falls (bd z4 len4 t) = true := hfl
                have HFL := Lib.hid hfl
                clear hfl
                by_cases hx1 : x = -1
                · subst hx1
                  go_wp2_with (first | (go_at_call 21; refine HAT.out.mono ?_; rintro e w' ⟨rfl, rfl⟩) | (go_at_call 20; refine (HCB.out _).mono ?_; rintro e w' ⟨rfl, rfl⟩))
                  go_roundw
                  case measure => simp [intOf]; omega
                  case rel => exact ⟨t + 1 + 1, cf.setIfInBounds (t + 1) (.int .i8 (pz false a1 z2 z3 len3 j (t + 1))), by omega, by go_num, Lib.hid (At.far ATP.out (by simp; omega) _), Lib.hid (At.set AF.out (t + 1) _), Lib.hid (by simp [HF9.out]), Lib.hid (cs_next (st := fn false a1 z2 z3 len3 z4 len4 j) HF9.out (by omega) HFN.out (pz false a1 z2 z3 len3 j (t + 1)) (by rw [HEQ.out]; rw [if_neg (by simp)])), Lib.hid (HL3.out.setCell (by simp) _)⟩
                · have hx2 : (x != -1) = true := by simp [hx1]
                  have HX1 := Lib.hid hx1
                  clear hx1
                  go_wp2_with (first | (go_at_call 21; refine HAT.out.mono ?_; rintro e w' ⟨rfl, rfl⟩) | (go_at_call 20; refine (HCB.out _).mono ?_; rintro e w' ⟨rfl, rfl⟩))
                  go_roundw
                  case measure => simp [intOf]; omega
                  case rel => exact ⟨t + 1 + 1, cf.setIfInBounds (t + 1) (.int .i8 (0)), by omega, by go_num, Lib.hid (At.far ATP.out (by simp; omega) _), Lib.hid (At.set AF.out (t + 1) _), Lib.hid (by simp [HF9.out]), Lib.hid (cs_next (st := fn false a1 z2 z3 len3 z4 len4 j) HF9.out (by omega) HFN.out (0) (by rw [HEQ.out]; rw [if_pos ⟨HFL.out, HX1.out⟩])), Lib.hid (HL3.out.setCell (by simp) _)⟩
          · obtain rfl : q = j := by omega
            have BF := Lib.hid (show Below w6.heap.size w6 wr from HL2.out.trans (HL3.out.mono (Nat.le_of_lt lWC)))
            have BWF := Lib.hid (BW6.out.trans (BF.out.mono BW6.out.size))
            go_wp2_with fail
            clear ATP HL3 HL2
            go_loopw [23] (fun i wq => P4 q wr i wq) (fun i _ => q - (intOf i).toNat)
            case atStart => exact ⟨0, by omega, rfl, Lib.hid (Below.refl _ _)⟩
            case round =>
              obtain ⟨r, hr, rfl, HB9⟩ := hrel
              rename World => wq
              have B9 := Lib.hid (show Below w6.heap.size w6 wq from BF.out.trans (HB9.out.mono BF.out.size))
              by_cases hrq : r < q
              · have c1 : wq.cell? ⟨S1, r, none⟩ = some (.int .i8 (fn false a1 z2 z3 len3 z4 len4 q r)) := (B9.out.cell (p := ⟨S1, r, none⟩) (by simpa using lS1)).trans (by rw [A1.out.cell]; exact HCS.out r hrq)
                have c2 : wq.cell? ⟨S2, r, none⟩ = some (.bool (fl z4 len4 r)) := (B9.out.cell (p := ⟨S2, r, none⟩) (by simpa using lS2)).trans (by rw [A2.out.cell]; exact HFS.out r hrq)
                have c3 : wq.cell? ⟨wc.heap.size, r, none⟩ = some (.int .i8 (fn false a1 z2 z3 len3 z4 len4 q r)) := kept HB9.out (by rw [AF.out.cell]; exact HFN.out r hrq)
                have l1 : S1 < wq.heap.size := World.block_lt_of_cell? _ _ c1
                have l2 : S2 < wq.heap.size := World.block_lt_of_cell? _ _ c2
                have l3 : wc.heap.size < wq.heap.size := World.block_lt_of_cell? _ _ c3
                have r0 : (0 : Int) ≤ (r : Int) := Int.natCast_nonneg _
                have r1 : (r : Int) < (q : Int) := by omega
                have HAT := Lib.hid (fun (k : Nat) => atB b4 len4 d4 r z4 (wq.drewN k) ((HB6.out.below B9.out).below (below_drewN (Below.refl _ _) k)) (by omega) (by omega))
                have HCB := Lib.hid (fun (k : Nat) => show Calls Try.prog 20 #[.int .u8 (vz z4 len4 r)] (wq.drewN k) (fun e w' => e = .returned (.bool (fl z4 len4 r)) ∧ wq.drewN k = w') from cbFalls (vz z4 len4 r) (bd z4 len4 r) (wq.drewN k) rfl (vz_b HZ4.out len4 r).1 (vz_b HZ4.out len4 r).2)
                go_wp2_with fail
                go_quiet (first | (go_at_call 21; exact Calls.quiet_of_same ((HAT.out _).mono fun _ _ h => ⟨h.1, h.2.symm⟩)) | (go_at_call 20; exact Calls.quiet_of_same ((HCB.out _).mono fun _ _ h => ⟨h.1, h.2.symm⟩)))
                go_wp2_with fail
                go_roundw
                case measure => simp [intOf]; omega
                case rel => exact ⟨r + 1, by omega, by go_num, Lib.hid (below_drewN HB9.out _)⟩
              · obtain rfl : r = q := by omega
                have BZ := Lib.hid (BWF.out.trans (HB9.out.mono BWF.out.size))
                go_wp2_with fail
                go_ret
                exact ⟨rfl, BZ.out⟩
  · refine (bswI a1 b2 len2 d2 z2 b3 len3 d3 z3 b4 len4 d4 z4 w4 h41 h42 h43 HZ2.out HZ4.out HK.out HV.out HB.out).mono ?_
    rintro e w5 ⟨sb, R, tvl, xs, rfl, hT, h0, h1, h2, ho, hc, hb5⟩
    have BW5 := Lib.hid (BW4.out.trans (hb5.mono BW4.out.size))
    have HK5 := Lib.hid (HK.out.below hb5)
    have HV5 := Lib.hid (HV.out.below hb5)
    have HB5 := Lib.hid (HB.out.below hb5)
    have HA := Lib.hid (zana len2 true a1 z2 z3 len3 z4 len4 sb w5 h41 (analyze len2 true a1 z2 z3 len3 z4 len4 sb R tvl xs w5 hT h0 h1 h2 ho hc h41 (wf_i8 w1) HZ3.out))
    clear hT h0 h1 h2 ho hc hb5 HK HV HB
    go_wp2_with fail
    refine HA.out.mono ?_
    rintro e w6 ⟨S1, S2, cs, fs, rfl, hA1, hcs, hA2, hfs, hb6⟩
    have BW6 := Lib.hid (BW5.out.trans (hb6.mono BW5.out.size))
    have HK6 := Lib.hid (HK5.out.below hb6)
    have HV6 := Lib.hid (HV5.out.below hb6)
    have HB6 := Lib.hid (HB5.out.below hb6)
    have A1 := Lib.hid hA1
    have A2 := Lib.hid hA2
    have HCS := Lib.hid hcs
    have HFS := Lib.hid hfs
    have lS1 := hA1.lt
    have lS2 := hA2.lt
    clear hA1 hA2 hcs hfs hb6 HA HK5 HV5 HB5
    have hmk := made (P := Try.prog) (t := 39) (e := 38) (z := .int .i8 0) (sz := 1) (by_ := 1) Try.underlying39 (by kernel_rfl) w6 len2 (by omega) (by omega)
    rw [Nat.mul_one] at hmk
    go_wp2_with fail
    clear hmk
    go_loopw [16, 17, 18, 19] (fun sn un d i wr => P1 len2 true a1 z2 z3 len3 w6.heap.size w6 sn un d i wr) (fun sn un d i _ => len2 - (intOf i).toNat)
    case atStart => exact ⟨0, false, _, by omega, by simp [mx], rfl, rfl, rfl, Lib.hid (At.new w6 38 (madeCells #[.int .i8 0] len2)), Lib.hid (by simp [size_madeCells]), Lib.hid (fun q hq => absurd hq (by omega)), Lib.hid ((Below.refl _ _).alloc (Nat.le_refl _) _), Lib.hid (by simp [mx])⟩
    case round =>
      obtain ⟨j, ub, ps, hj, rfl, rfl, rfl, rfl, AT, HZ, HP, HL, HU⟩ := hrel
      have BW7 := Lib.hid (show Below w6.heap.size w6 wr from HL.out)
      by_cases hjn : j < len2
      · obtain ⟨B, off, rfl, c0⟩ := (HK6.out.below HL.out) j hjn
        obtain ⟨z0, z1⟩ := HZ2.out j
        have HKD := Lib.hid (show z2.getD j 0 % 3 = kd z2 j from rfl)
        obtain ⟨z, hzz⟩ : ∃ z, z = z2.getD j 0 := ⟨_, rfl⟩
        rw [← hzz] at c0 z0 z1 HKD
        clear hzz
        have lB : B < wr.heap.size := World.block_lt_of_cell? _ _ c0
        have q0 : (0 : Int) ≤ (j : Int) := Int.natCast_nonneg _
        have q1 : (j : Int) < (len2 : Int) := by omega
        have hz := HZ.out
        obtain ⟨u, hu⟩ : ∃ u, ps[j]? = some u := ⟨_, Array.getElem?_eq_getElem (by omega)⟩
        have s0 : wr.cell? ⟨w6.heap.size, j, none⟩ = some u := by rw [AT.out.cell]; exact hu
        have sf := AT.out.frozen j
        have lS := AT.out.lt
        have zc := HKD.out
        have k3 : kd z2 j = 0 ∨ kd z2 j = 1 ∨ kd z2 j = 2 := by unfold kd; omega
        have HI8 := Lib.hid (fun (W : World) (hb : Below w6.heap.size w6 W) => atI8 b3 len3 d3 j z3 W (HV6.out.below hb) (by omega) (by omega))
        clear hu hz
        rcases mx_range true a1 z2 z3 len3 j with hM | hM | hM
        · rcases k3 with hk | hk | hk
          · rw [hk] at zc
            go_wp2_with (fail)
            go_roundw
            case measure => simp [intOf]; omega
            case rel => exact ⟨j + 1, ub, ps.setIfInBounds j (.int .i8 (-1)), by omega, by simp [mx, sOf, hM, hk], rfl, by simp [df, hk], by go_num, Lib.hid (At.set AT.out j _), Lib.hid (by simp [HZ.out]), Lib.hid (cs_next HZ.out hjn HP.out (-1) (by simp [pr, sOf, hM, hk])), Lib.hid (HL.out.setCell (Nat.le_refl _) _), Lib.hid (by have h9 := HU.out (by rw [hM]; decide); simpa [mx, sOf, hM, hk] using h9)⟩
          · rw [hk] at zc
            go_wp2_with (fail)
            go_roundw
            case measure => simp [intOf]; omega
            case rel => exact ⟨j + 1, true, ps.setIfInBounds j (.int .i8 (0)), by omega, by simp [mx, sOf, hM, hk], rfl, by simp [df, hk], by go_num, Lib.hid (At.set AT.out j _), Lib.hid (by simp [HZ.out]), Lib.hid (cs_next HZ.out hjn HP.out (0) (by simp [pr, sOf, hM, hk])), Lib.hid (HL.out.setCell (Nat.le_refl _) _), Lib.hid (by simp [mx, sOf, hM, hk])⟩
          · rw [hk] at zc
            go_wp2_with (fail)
            go_roundw
            case measure => simp [intOf]; omega
            case rel => exact ⟨j + 1, true, ps.setIfInBounds j (.int .i8 (0)), by omega, by simp [mx, sOf, hM, hk], rfl, by simp [df, hk], by go_num, Lib.hid (At.set AT.out j _), Lib.hid (by simp [HZ.out]), Lib.hid (cs_next HZ.out hjn HP.out (0) (by simp [pr, sOf, hM, hk])), Lib.hid (HL.out.setCell (Nat.le_refl _) _), Lib.hid (by simp [mx, sOf, hM, hk])⟩
        · rcases k3 with hk | hk | hk
          · rw [hk] at zc
            go_wp2_with (fail)
            go_roundw
            case measure => simp [intOf]; omega
            case rel => exact ⟨j + 1, ub, ps.setIfInBounds j (.int .i8 (-1)), by omega, by simp [mx, sOf, hM, hk], rfl, by simp [df, hk], by go_num, Lib.hid (At.set AT.out j _), Lib.hid (by simp [HZ.out]), Lib.hid (cs_next HZ.out hjn HP.out (-1) (by simp [pr, sOf, hM, hk])), Lib.hid (HL.out.setCell (Nat.le_refl _) _), Lib.hid (by have h9 := HU.out (by rw [hM]; decide); simpa [mx, sOf, hM, hk] using h9)⟩
          · rw [hk] at zc
            go_wp2_with (fail)
            go_roundw
            case measure => simp [intOf]; omega
            case rel => exact ⟨j + 1, true, ps.setIfInBounds j (.int .i8 (0)), by omega, by simp [mx, sOf, hM, hk], rfl, by simp [df, hk], by go_num, Lib.hid (At.set AT.out j _), Lib.hid (by simp [HZ.out]), Lib.hid (cs_next HZ.out hjn HP.out (0) (by simp [pr, sOf, hM, hk])), Lib.hid (HL.out.setCell (Nat.le_refl _) _), Lib.hid (by simp [mx, sOf, hM, hk])⟩
          · rw [hk] at zc
            go_wp2_with (fail)
            go_roundw
            case measure => simp [intOf]; omega
            case rel => exact ⟨j + 1, true, ps.setIfInBounds j (.int .i8 (0)), by omega, by simp [mx, sOf, hM, hk], rfl, by simp [df, hk], by go_num, Lib.hid (At.set AT.out j _), Lib.hid (by simp [HZ.out]), Lib.hid (cs_next HZ.out hjn HP.out (0) (by simp [pr, sOf, hM, hk])), Lib.hid (HL.out.setCell (Nat.le_refl _) _), Lib.hid (by simp [mx, sOf, hM, hk])⟩
        · rcases k3 with hk | hk | hk
          · rw [hk] at zc
            go_wp2_with (fail)
            go_roundw
            case measure => simp [intOf]; omega
            case rel => exact ⟨j + 1, ub, ps.setIfInBounds j (.int .i8 (-1)), by omega, by simp [mx, sOf, hM, hk], rfl, by simp [df, hk], by go_num, Lib.hid (At.set AT.out j _), Lib.hid (by simp [HZ.out]), Lib.hid (cs_next HZ.out hjn HP.out (-1) (by simp [pr, sOf, hM, hk])), Lib.hid (HL.out.setCell (Nat.le_refl _) _), Lib.hid (by simp [mx, sOf, hM, hk])⟩
          · rw [hk] at zc
            go_wp2_with (fail)
            go_roundw
            case measure => simp [intOf]; omega
            case rel => exact ⟨j + 1, ub, ps.setIfInBounds j (.int .i8 (-1)), by omega, by simp [mx, sOf, hM, hk], rfl, by simp [df, hk], by go_num, Lib.hid (At.set AT.out j _), Lib.hid (by simp [HZ.out]), Lib.hid (cs_next HZ.out hjn HP.out (-1) (by simp [pr, sOf, hM, hk])), Lib.hid (HL.out.setCell (Nat.le_refl _) _), Lib.hid (by simp [mx, sOf, hM, hk])⟩
          · rw [hk] at zc
            go_wp2_with (fail)
            go_roundw
            case measure => simp [intOf]; omega
            case rel => exact ⟨j + 1, ub, ps.setIfInBounds j (.int .i8 (-1)), by omega, by simp [mx, sOf, hM, hk], rfl, by simp [df, hk], by go_num, Lib.hid (At.set AT.out j _), Lib.hid (by simp [HZ.out]), Lib.hid (cs_next HZ.out hjn HP.out (-1) (by simp [pr, sOf, hM, hk])), Lib.hid (HL.out.setCell (Nat.le_refl _) _), Lib.hid (by simp [mx, sOf, hM, hk])⟩
      · obtain rfl : j = len2 := by omega
        go_upto_if 107 with (fail)
        go_cut [15, 16, 17, 18] from 106 to 118 (fun s15 s16 s17 s18 wx => CD j true a1 z2 z3 len3 w6.heap.size w6 s15 wx)
        case first =>
          rcases df_range z2 j with hd | ⟨k, hkn, hd, hk0⟩
          · have HD := Lib.hid hd
            go_wp2_with fail
            go_meet
            exact ⟨ps, rfl, AT, HZ, Lib.hid (fun q hq => by rw [show pz true a1 z2 z3 len3 j q = pr true a1 z2 z3 len3 q from by unfold pz; rw [if_neg (by rw [HD.out]; omega)]]; exact HP.out q hq), HL⟩
          · have hz := HZ.out
            obtain ⟨u, hu⟩ : ∃ u, ps[k]? = some u := ⟨_, Array.getElem?_eq_getElem (by omega)⟩
            have s0 : wr.cell? ⟨w6.heap.size, k, none⟩ = some u := by rw [AT.out.cell]; exact hu
            have sf := AT.out.frozen k
            have lS := AT.out.lt
            have k0 : (0 : Int) ≤ (k : Int) := Int.natCast_nonneg _
            have k1 : (k : Int) < (j : Int) := by omega
            clear hu hz
            rcases mx_range true a1 z2 z3 len3 j with hM | hM | hM
            · obtain rfl : ub = false := by
                have h9 := HU.out (by rw [hM]; decide)
                cases ub
                · rfl
                · exact absurd (h9.1 rfl) (by rw [hM]; decide)
              go_wp2_with fail
              go_meet
              exact ⟨_, rfl, Lib.hid (At.set AT.out k _), Lib.hid (by simp [HZ.out]), Lib.hid (fun q hq => pz_put hd (by simp [hM]) HZ.out hkn HP.out q hq), Lib.hid (HL.out.setCell (Nat.le_refl _) _)⟩
            · obtain rfl : ub = true := (HU.out (by rw [hM]; decide)).2 hM
              go_wp2_with fail
              go_meet
              exact ⟨_, rfl, Lib.hid (At.set AT.out k _), Lib.hid (by simp [HZ.out]), Lib.hid (fun q hq => pz_put hd (by simp [hM]) HZ.out hkn HP.out q hq), Lib.hid (HL.out.setCell (Nat.le_refl _) _)⟩
            · go_wp2_with fail
              go_meet
              exact ⟨_, rfl, Lib.hid (At.set AT.out k _), Lib.hid (by simp [HZ.out]), Lib.hid (fun q hq => pz_put hd (by simp [hM]) HZ.out hkn HP.out q hq), Lib.hid (HL.out.setCell (Nat.le_refl _) _)⟩
        case rest =>
        obtain ⟨pc, rfl, AT2, HZ2', HP2, HL2⟩ := hcut
        rename World => wc
        clear AT HZ HP HL HU BW7
        have hmk2 := made (P := Try.prog) (t := 39) (e := 38) (z := .int .i8 0) (sz := 1) (by_ := 1) Try.underlying39 (by kernel_rfl) wc j (by omega) (by omega)
        rw [Nat.mul_one] at hmk2
        go_wp2_with fail
        clear hmk2
        go_loopw [22] (fun i wr => P3 j (fn true a1 z2 z3 len3 z4 len4 j) w6.heap.size wc.heap.size pc wc i wr) (fun i _ => j - (intOf i).toNat)
        case atStart => exact ⟨0, _, by omega, rfl, Lib.hid (AT2.out.alloc _), Lib.hid (At.new wc 38 (madeCells #[.int .i8 0] j)), Lib.hid (by simp [size_madeCells]), Lib.hid (fun q hq => absurd hq (by omega)), Lib.hid ((Below.refl _ _).alloc (Nat.le_refl _) _)⟩
        case round =>
          obtain ⟨q, cf, hq, rfl, ATP, AF, HF9, HFN, HL3⟩ := hrel
          have lWC : w6.heap.size < wc.heap.size := AT2.out.lt
          by_cases hqj : q < j
          · cases q with
            | zero =>
              have lS := ATP.out.lt
              have lF := AF.out.lt
              have hz9 := HF9.out
              have hzp := HZ2'.out
              obtain ⟨u, hu⟩ : ∃ u, cf[0]? = some u := ⟨_, Array.getElem?_eq_getElem (by omega)⟩
              have s0 : wr.cell? ⟨wc.heap.size, 0, none⟩ = some u := by rw [AF.out.cell]; exact hu
              have sf := AF.out.frozen (0)
              have s1 : wr.cell? ⟨w6.heap.size, 0, none⟩ = some (.int .i8 (pz true a1 z2 z3 len3 j (0))) := by rw [ATP.out.cell]; exact HP2.out (0) (by omega)
              clear hu hz9 hzp
              go_wp2_with fail
              go_roundw
              case measure => simp [intOf]; omega
              case rel => exact ⟨0 + 1, cf.setIfInBounds 0 (.int .i8 (pz true a1 z2 z3 len3 j 0)), by omega, by go_num, Lib.hid (At.far ATP.out (by simp; omega) _), Lib.hid (At.set AF.out 0 _), Lib.hid (by simp [HF9.out]), Lib.hid (cs_next (st := fn true a1 z2 z3 len3 z4 len4 j) HF9.out (by omega) HFN.out (pz true a1 z2 z3 len3 j 0) (by rfl)), Lib.hid (HL3.out.setCell (by simp) _)⟩
            | succ t =>
              have lS := ATP.out.lt
              have lF := AF.out.lt
              have hz9 := HF9.out
              have hzp := HZ2'.out
              obtain ⟨u, hu⟩ : ∃ u, cf[t + 1]? = some u := ⟨_, Array.getElem?_eq_getElem (by omega)⟩
              have s0 : wr.cell? ⟨wc.heap.size, t + 1, none⟩ = some u := by rw [AF.out.cell]; exact hu
              have sf := AF.out.frozen (t + 1)
              have s1 : wr.cell? ⟨w6.heap.size, t + 1, none⟩ = some (.int .i8 (pz true a1 z2 z3 len3 j (t + 1))) := by rw [ATP.out.cell]; exact HP2.out (t + 1) (by omega)
              clear hu hz9 hzp
              have r0 : wr.cell? ⟨wc.heap.size, t, none⟩ = some (.int .i8 (fn true a1 z2 z3 len3 z4 len4 j t)) := by rw [AF.out.cell]; exact HFN.out t (by omega)
              have t0 : (0 : Int) ≤ (t : Int) := Int.natCast_nonneg _
              have t1 : (t : Int) + 1 < (j : Int) := by omega
              have t2 : (0 : Int) < (t : Int) + 1 := by omega
              have hB9 := HL2.out.trans (HL3.out.mono (Nat.le_of_lt lWC))
              have HAT := Lib.hid (atB b4 len4 d4 t z4 wr (HB6.out.below hB9) (by omega) (by omega))
              have HCB := Lib.hid (fun (W : World) => cbFalls (vz z4 len4 t) (bd z4 len4 t) W rfl (vz_b HZ4.out len4 t).1 (vz_b HZ4.out len4 t).2)
              clear hB9
              have HEQ := Lib.hid (show fn true a1 z2 z3 len3 z4 len4 j (t + 1) = if fl z4 len4 t = true ∧ fn true a1 z2 z3 len3 z4 len4 j t ≠ -1 then 0 else pz true a1 z2 z3 len3 j (t + 1) from rfl)
              obtain ⟨x, hx⟩ : ∃ x, x = fn true a1 z2 z3 len3 z4 len4 j t := ⟨_, rfl⟩
              rw [← hx] at r0 HEQ
              clear hx
              cases hfl : fl z4 len4 t
              · have hfl2 : falls (bd z4 len4 t) = false := hfl
                have HFL := Lib.hid hfl
                clear hfl
                go_wp2_with (first | (go_at_call 21; refine HAT.out.mono ?_; rintro e w' ⟨rfl, rfl⟩) | (go_at_call 20; refine (HCB.out _).mono ?_; rintro e w' ⟨rfl, rfl⟩))
                go_roundw
                case measure => simp [intOf]; omega
                case rel => exact ⟨t + 1 + 1, cf.setIfInBounds (t + 1) (.int .i8 (pz true a1 z2 z3 len3 j (t + 1))), by omega, by go_num, Lib.hid (At.far ATP.out (by simp; omega) _), Lib.hid (At.set AF.out (t + 1) _), Lib.hid (by simp [HF9.out]), Lib.hid (cs_next (st := fn true a1 z2 z3 len3 z4 len4 j) HF9.out (by omega) HFN.out (pz true a1 z2 z3 len3 j (t + 1)) (by rw [HEQ.out]; rw [HFL.out]; simp)), Lib.hid (HL3.out.setCell (by simp) _)⟩
              · have hfl2 : falls (bd z4 len4 t) = true := hfl
                have HFL := Lib.hid hfl
                clear hfl
                by_cases hx1 : x = -1
                · subst hx1
                  go_wp2_with (first | (go_at_call 21; refine HAT.out.mono ?_; rintro e w' ⟨rfl, rfl⟩) | (go_at_call 20; refine (HCB.out _).mono ?_; rintro e w' ⟨rfl, rfl⟩))
                  go_roundw
                  case measure => simp [intOf]; omega
                  case rel => exact ⟨t + 1 + 1, cf.setIfInBounds (t + 1) (.int .i8 (pz true a1 z2 z3 len3 j (t + 1))), by omega, by go_num, Lib.hid (At.far ATP.out (by simp; omega) _), Lib.hid (At.set AF.out (t + 1) _), Lib.hid (by simp [HF9.out]), Lib.hid (cs_next (st := fn true a1 z2 z3 len3 z4 len4 j) HF9.out (by omega) HFN.out (pz true a1 z2 z3 len3 j (t + 1)) (by rw [HEQ.out]; rw [if_neg (by simp)])), Lib.hid (HL3.out.setCell (by simp) _)⟩
                · have hx2 : (x != -1) = true := by simp [hx1]
                  have HX1 := Lib.hid hx1
                  clear hx1
                  go_wp2_with (first | (go_at_call 21; refine HAT.out.mono ?_; rintro e w' ⟨rfl, rfl⟩) | (go_at_call 20; refine (HCB.out _).mono ?_; rintro e w' ⟨rfl, rfl⟩))
                  go_roundw
                  case measure => simp [intOf]; omega
                  case rel => exact ⟨t + 1 + 1, cf.setIfInBounds (t + 1) (.int .i8 (0)), by omega, by go_num, Lib.hid (At.far ATP.out (by simp; omega) _), Lib.hid (At.set AF.out (t + 1) _), Lib.hid (by simp [HF9.out]), Lib.hid (cs_next (st := fn true a1 z2 z3 len3 z4 len4 j) HF9.out (by omega) HFN.out (0) (by rw [HEQ.out]; rw [if_pos ⟨HFL.out, HX1.out⟩])), Lib.hid (HL3.out.setCell (by simp) _)⟩
          · obtain rfl : q = j := by omega
            have BF := Lib.hid (show Below w6.heap.size w6 wr from HL2.out.trans (HL3.out.mono (Nat.le_of_lt lWC)))
            have BWF := Lib.hid (BW6.out.trans (BF.out.mono BW6.out.size))
            go_wp2_with fail
            clear ATP HL3 HL2
            go_loopw [23] (fun i wq => P4 q wr i wq) (fun i _ => q - (intOf i).toNat)
            case atStart => exact ⟨0, by omega, rfl, Lib.hid (Below.refl _ _)⟩
            case round =>
              obtain ⟨r, hr, rfl, HB9⟩ := hrel
              rename World => wq
              have B9 := Lib.hid (show Below w6.heap.size w6 wq from BF.out.trans (HB9.out.mono BF.out.size))
              by_cases hrq : r < q
              · have c1 : wq.cell? ⟨S1, r, none⟩ = some (.int .i8 (fn true a1 z2 z3 len3 z4 len4 q r)) := (B9.out.cell (p := ⟨S1, r, none⟩) (by simpa using lS1)).trans (by rw [A1.out.cell]; exact HCS.out r hrq)
                have c2 : wq.cell? ⟨S2, r, none⟩ = some (.bool (fl z4 len4 r)) := (B9.out.cell (p := ⟨S2, r, none⟩) (by simpa using lS2)).trans (by rw [A2.out.cell]; exact HFS.out r hrq)
                have c3 : wq.cell? ⟨wc.heap.size, r, none⟩ = some (.int .i8 (fn true a1 z2 z3 len3 z4 len4 q r)) := kept HB9.out (by rw [AF.out.cell]; exact HFN.out r hrq)
                have l1 : S1 < wq.heap.size := World.block_lt_of_cell? _ _ c1
                have l2 : S2 < wq.heap.size := World.block_lt_of_cell? _ _ c2
                have l3 : wc.heap.size < wq.heap.size := World.block_lt_of_cell? _ _ c3
                have r0 : (0 : Int) ≤ (r : Int) := Int.natCast_nonneg _
                have r1 : (r : Int) < (q : Int) := by omega
                have HAT := Lib.hid (fun (k : Nat) => atB b4 len4 d4 r z4 (wq.drewN k) ((HB6.out.below B9.out).below (below_drewN (Below.refl _ _) k)) (by omega) (by omega))
                have HCB := Lib.hid (fun (k : Nat) => show Calls Try.prog 20 #[.int .u8 (vz z4 len4 r)] (wq.drewN k) (fun e w' => e = .returned (.bool (fl z4 len4 r)) ∧ wq.drewN k = w') from cbFalls (vz z4 len4 r) (bd z4 len4 r) (wq.drewN k) rfl (vz_b HZ4.out len4 r).1 (vz_b HZ4.out len4 r).2)
                go_wp2_with fail
                go_quiet (first | (go_at_call 21; exact Calls.quiet_of_same ((HAT.out _).mono fun _ _ h => ⟨h.1, h.2.symm⟩)) | (go_at_call 20; exact Calls.quiet_of_same ((HCB.out _).mono fun _ _ h => ⟨h.1, h.2.symm⟩)))
                go_wp2_with fail
                go_roundw
                case measure => simp [intOf]; omega
                case rel => exact ⟨r + 1, by omega, by go_num, Lib.hid (below_drewN HB9.out _)⟩
              · obtain rfl : r = q := by omega
                have BZ := Lib.hid (BWF.out.trans (HB9.out.mono BWF.out.size))
                go_wp2_with fail
                go_ret
                exact ⟨rfl, BZ.out⟩
end Go.Proofs.Ytjnffbnipjkibaa.fnAnalyzeSwitchLivenessModel
