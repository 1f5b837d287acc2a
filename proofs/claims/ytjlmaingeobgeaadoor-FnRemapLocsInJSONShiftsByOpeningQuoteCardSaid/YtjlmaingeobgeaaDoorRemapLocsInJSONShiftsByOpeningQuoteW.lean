/- Proved here: the walk of the law FnRemapLocsInJSONShiftsByOpeningQuote. Conditions as stated. -/
import Derived.Test.YtjlmaingeobgeaaDoorRJT
import Derived.WalkKit
import Derived.WalkSpells
import Derived.WalkLawsBesides
import Derived.Lib.Hide
import Derived.Lib.SliceRun
import Derived.Deep.RegionWith
import Derived.OwnWalk
import Derived.Laws.OwnMore
import Derived.BigRegion
import Derived.Deep.QuietTactic
import Derived.BigQuiet
import Derived.IntWalk
import Derived.Carry
namespace Go.Proofs.YtjlmaingeobgeaaDoor
open Go.RowKit
set_option linter.unusedSimpArgs false
set_option linter.unusedVariables false
namespace fnRemapLocsInJSONShiftsByOpeningQuote

set_option maxRecDepth 100000 in
theorem asNumber (p f : Nat) (l : Int) (w : World) (h : At w p 214 #[.float .f64 f]) : Calls Tryd.prog 68 #[.agg #[ex 212 p, il l]] w fun e w' => e = .returned (.tuple #[.float .f64 f, .bool true]) ∧ Below w.heap.size w w' := by
  have lp := h.lt
  have lp1 : p < w.heap.size + 1 := by omega
  have c0 : w.cell? ⟨p, 0, none⟩ = some (.float .f64 f) := by rw [h.cell]; rfl
  clear h
  go_enter Tryd.func68, Tryd.ntmps68
  go_wp2_with fail
  go_ret2
  exact ⟨rfl, (Below.refl _ _).alloc (Nat.le_refl _) _⟩
set_option maxRecDepth 100000 in
theorem sameNum (p f : Nat) (l : Int) (w : World) (h : At w p 214 #[.float .f64 f]) : Calls Tryd.prog 42 #[.agg #[ex 212 p, il l], .float .f64 f] w fun e w' => e = .returned (.bool true) ∧ Below w.heap.size w w' := by
  have HP := Lib.hid h
  obtain ⟨bq, hbq⟩ : ∃ bq, bq = (FloatKind.f64.format.order f f == some .eq) := ⟨_, rfl⟩
  have heq := hbq.symm
  have hneq : (FloatKind.f64.format.order f f != some .eq) = !bq := by rw [bne, heq]
  clear h hbq
  cases bq
  all_goals
    go_enter Tryd.func42, Tryd.ntmps42
    go_wp2_with fail
    have hbw : Below w.heap.size w (w.alloc (.cells #[ex 212 p, il l] 35)) := (Below.refl _ _).alloc (Nat.le_refl _) _
    refine (asNumber p f l _ (HP.out.below hbw HP.out.lt)).mono ?_
    rintro e w1 ⟨rfl, hb⟩
    have HB := Lib.hid (hbw.trans (hb.mono hbw.size))
    clear hb hbw
    go_wp2_with fail
    go_ret
    exact ⟨rfl, HB.out⟩
set_option maxRecDepth 100000 in
theorem asStr (p : Nat) (l : Int) (w : World) (h : ∃ cs, At w p 225 cs ∧ cs[0]? = some (.slice none 0 0)) : Calls Tryd.prog 44 #[.agg #[ex 223 p, il l]] w fun e w' => e = .returned (.tuple #[.slice none 0 0, .bool true]) ∧ Below w.heap.size w w' := by
  obtain ⟨cs, h, h0⟩ := h
  have lp := h.lt
  have lp1 : p < w.heap.size + 1 := by omega
  have c0 : w.cell? ⟨p, 0, none⟩ = some (.slice none 0 0) := by rw [h.cell]; exact h0
  clear h h0 cs
  go_enter Tryd.func44, Tryd.ntmps44
  go_wp2_with fail
  go_ret2
  exact ⟨rfl, (Below.refl _ _).alloc (Nat.le_refl _) _⟩

set_option maxRecDepth 100000 in
set_option maxHeartbeats 4000000 in
theorem wBad (a0 : ByteArray) (a1 : Int) (a2 : Option Addr) (len2 cap2 : Nat) (z2 : List Int) (w : World) (w0 : a0.size ≤ maxLen) (w1 : (Lit.int .u16 a1).wf = true) (w2 : IsRow .i32 w a2 len2 cap2 z2) (hbad : ¬ (a0.size ≤ 65536 ∧ len2 ≤ 65536)) :
    Calls Tryd.prog 7 #[.string a0, .int .u16 a1, .slice a2 len2 cap2] w fun e w' => e = .returned (.bool true) ∧ Below w.heap.size w w' := by
  have L5 := row_len w2
  unfold maxLen at w0
  have g0 : (0 : Int) ≤ (a0.size : Int) ∧ (a0.size : Int) ≤ 9223372036854775807 := by omega
  have g5 : (0 : Int) ≤ (len2 : Int) ∧ (len2 : Int) ≤ 9223372036854775807 := by omega
  obtain ⟨g0a, g0b⟩ := g0
  obtain ⟨g5a, g5b⟩ := g5
  have hc : 65536 < a0.size ∨ (a0.size ≤ 65536 ∧ 65536 < len2) := by omega
  clear hbad w1 w2
  rcases hc with h | ⟨h, k⟩
  · have t0 : (65536 : Int) < (a0.size : Int) := by omega
    go_enter Tryd.func7, Tryd.ntmps7
    go_wp2_with fail
    refine (zz48 a0 a1 a2 len2 cap2 w (by omega) (by omega)).mono ?_
    rintro e w' ⟨zb, rfl, rfl⟩
    cases zb
    · go_wp2_with fail
      go_ret
      exact ⟨rfl, Below.refl _ _⟩
    · go_wp2_with fail
      go_ret
      exact ⟨rfl, Below.refl _ _⟩
  · have t0 : ¬ (65536 : Int) < (a0.size : Int) := by omega
    have t1 : (65536 : Int) < (len2 : Int) := by omega
    go_enter Tryd.func7, Tryd.ntmps7
    go_wp2_with fail
    refine (zz48 a0 a1 a2 len2 cap2 w (by omega) (by omega)).mono ?_
    rintro e w' ⟨zb, rfl, rfl⟩
    cases zb
    · go_wp2_with fail
      go_ret
      exact ⟨rfl, Below.refl _ _⟩
    · go_wp2_with fail
      go_ret
      exact ⟨rfl, Below.refl _ _⟩

def CL (m : Nat) (W : World) (i : Value) (wr : World) : Prop := ∃ k q : Nat, i = .int .i64 k ∧ k ≤ m ∧ Hid (wr = W.drewN q)
def IL (n : Nat) (W : World) (i : Value) (wr : World) : Prop := ∃ k : Nat, i = .int .i64 k ∧ k ≤ n ∧ Hid (Below W.heap.size W wr)
set_option maxRecDepth 100000 in
set_option maxHeartbeats 16000000 in
theorem wOK (a0 : ByteArray) (p1 : Nat) (a2 : Option Addr) (N cap2 : Nat) (z5 : List Int) (w : World) (hp1 : p1 ≤ 65535) (w2 : IsRow .i32 w a2 N cap2 z5) (hT : Lib.Utf8Tabs 1 2 w) (h0 : a0.size ≤ 65536) (hN : N ≤ 65536) :
    Calls Tryd.prog 7 #[.string a0, .int .u16 (p1 : Int), .slice a2 N cap2] w fun e w' => e = .returned (.bool true) ∧ Below w.heap.size w w' := by
  have g0 : (0 : Int) ≤ (a0.size : Int) ∧ (a0.size : Int) ≤ 65536 := by omega
  have g5 : (0 : Int) ≤ (N : Int) ∧ (N : Int) ≤ 65536 := by omega
  have g3 : (0 : Int) ≤ (p1 : Int) ∧ (p1 : Int) ≤ 65535 := by omega
  obtain ⟨g0a, g0b⟩ := g0
  obtain ⟨g3a, g3b⟩ := g3
  obtain ⟨g5a, g5b⟩ := g5
  have HZ := Lib.hid (fun j => row_in w2 j)
  have HLL := Lib.hid (fun i => LL_in HZ.out N i)
  have HR := Lib.hid w2
  have HT := Lib.hid hT
  clear w2 hT
  go_enter Tryd.func7, Tryd.ntmps7
  go_wp2_with fail
  refine (zz48 a0 p1 a2 N cap2 w (by omega) (by omega)).mono ?_
  rintro e w' ⟨zb, rfl, rfl⟩
  cases zb
  · go_wp2_with fail
    go_ret
    exact ⟨rfl, Below.refl _ _⟩
  have hbig : ¬ (1048576 : Int) < 2 * (a0.size : Int) + 4 * (N : Int) + 2 * (p1 : Int) := by omega
  go_wp2_with fail
  refine (cloneAny a2 N cap2 z5 w HR.out (by omega)).mono ?_
  rintro e x1 ⟨lb, ac, rfl, hac, hcs, hb⟩
  have HA := Lib.hid hac
  have HC := Lib.hid hcs
  have HB := Lib.hid hb
  clear hac hcs hb hbig
  go_wp2_with fail
  refine (makeTableC a0 p1 (p1 : Int) x1 rfl h0 (by omega) (tabsBelow HT.out HB.out)).mono ?_
  rintro e x2 ⟨g1, c1, rfl, ho, hb⟩
  have HT1 := Lib.hid (TB.of ho)
  have HB2 := Lib.hid (HB.out.trans (hb.mono HB.out.size))
  have HC2 := Lib.hid (show ∀ j, j < N → x2.cell? ⟨lb, j, none⟩ = some (il (z5.getD j 0)) from fun j hj => kept hb (HC.out j hj))
  clear ho hb
  go_wp2_with fail
  refine (bTree ac lb N z5 x2 hN HA.out HC2.out).mono ?_
  rintro e x3 ⟨ra, ib, cap, eo, pb, ea, ib2, ed, es, n5, n6, n11, rfl, htr, hb⟩
  obtain ⟨L, hLd⟩ : ∃ L, L = LL z5 N := ⟨_, rfl⟩
  have HL := Lib.hid (show ∀ i, -2147483648 ≤ L i ∧ L i ≤ 2147483647 from by rw [hLd]; exact HLL.out)
  rw [← hLd] at htr
  rw [← hLd]
  have HTR := Lib.hid htr
  have HQ5 := Lib.hid hb
  clear htr hb hLd
  go_wp2_with fail
  obtain ⟨x4, hx4⟩ : ∃ x4, x4 = x3.alloc (.cells #[ex 255 ra, il (L 0)] 35) := ⟨_, rfl⟩
  obtain ⟨rx, hrx⟩ : ∃ rx, rx = x3.heap.size := ⟨_, rfl⟩
  have A4 := Lib.hid (show At x4 rx 35 #[ex 255 ra, il (L 0)] from by rw [hx4, hrx]; exact At.new _ _ _)
  have b34 : Below x3.heap.size x3 x4 := by rw [hx4]; exact (Below.refl _ _).alloc (Nat.le_refl _) _
  have HTR4 := Lib.hid (HTR.out.below b34)
  have HB24 := Lib.hid (HQ5.out.trans (b34.mono HQ5.out.size))
  have hrn : x2.heap.size ≤ rx ∧ rx ≠ ib ∧ rx ≠ ib2 := by
    obtain ⟨cs, r1, _⟩ := HTR.out.row
    have h1 := r1.lt
    have h2 := HTR.out.row2.lt
    have := HQ5.out.size
    omega
  have HRN := Lib.hid hrn
  have c0 : x4.cell? ⟨rx, 0, none⟩ = some (ex 255 ra) := by rw [A4.out.cell]; rfl
  have c1' : x4.cell? ⟨rx, 1, none⟩ = some (il (L 0)) := by rw [A4.out.cell]; rfl
  have lrx := A4.out.lt
  rw [← hx4, ← hrx]
  have HFL := Lib.hid (flat_len N L)
  have HF4 := Lib.hid (flTree HTR4.out hN)
  clear hx4 hrx b34 hrn
  go_wp2_with fail
  refine (HF4.out x4 none 0 0 [] (Below.refl _ _) rfl (World.ownsRow_nil _ _ _ _) (by rw [HFL.out]; simp; omega)).mono ?_
  rintro e x5 ⟨ax, mx, cpx, rfl, hm, ho, hb, hft⟩
  rw [List.nil_append, HFL.out] at hm
  rw [List.nil_append] at ho
  subst hm
  obtain ⟨gx, cx, hgx, hgxb, _, _, csx, hax⟩ := ownFull ho (by omega)
  simp only [Value.slice.injEq] at hgx
  obtain ⟨rfl, _, rfl⟩ := hgx
  have HGX5 := Lib.hid (show ∀ k, k < N + 12 → csx[k]? = some (il (L k)) from fun k hk => by
    rw [← hax.cell, World.ownsRow.cellAt ho k (by omega), List.getElem?_map, flat_get N L k hk]; rfl)
  have HAX5 := Lib.hid hax
  have HTR5 := Lib.hid (HTR4.out.below hb)
  have A5 := Lib.hid (A4.out.below hb A4.out.lt)
  have HB25 := Lib.hid (HB24.out.trans (hb.mono HB24.out.size))
  clear ho hb hft hax c0 c1' lrx
  go_wp2_with fail
  refine (wrap38 (rTree x5 rx g1 c1 x2.heap.size ra N ((p1 + 1 : Nat) : Int) L ib cap eo pb ea ib2 ed es n5 n6 n11 hN (by omega) HL.out HTR5.out A5.out HRN.out (HT1.out.below HB25.out) HB25.out.size) (fun _ _ h => h.1)).mono ?_
  rintro e x6 ⟨rfl, hst⟩
  obtain ⟨L2, hL2⟩ : ∃ L2, L2 = shM ((p1 + 1 : Nat) : Int) (N + 10) L := ⟨_, rfl⟩
  have htr := hst.tr
  have hvr := hst.vr
  rw [← hL2] at htr
  rw [show sh ((p1 + 1 : Nat) : Int) (L 0) = L2 0 from by rw [hL2]; exact (if_pos (by omega)).symm] at hvr
  have HLO := Lib.hid (show ∀ k, k < N + 10 → L2 k = wrap32 (L k + ((p1 : Int) + 1)) from fun k hk => by
    rw [hL2]; unfold shM; rw [if_pos hk]; unfold sh; congr 1; omega)
  have HHI := Lib.hid (show ∀ k, N + 10 ≤ k → L2 k = L k from fun k hk => by rw [hL2]; exact if_neg (by omega))
  have HTR6 := Lib.hid htr
  have A6 := Lib.hid hvr
  have HAX6 := Lib.hid (hst.ty _ _ HAX5.out)
  have HB26 := Lib.hid (HB25.out.trans hst.fr)
  have d0 : x6.cell? ⟨rx, 0, none⟩ = some (ex 255 ra) := by rw [A6.out.cell]; rfl
  have d1 : x6.cell? ⟨rx, 1, none⟩ = some (il (L2 0)) := by rw [A6.out.cell]; rfl
  have lrx := A6.out.lt
  have HFL2 := Lib.hid (flat_len N L2)
  have HF6 := Lib.hid (flTree HTR6.out hN)
  clear hst htr hvr hL2
  go_wp2_with fail
  refine (HF6.out x6 none 0 0 [] (Below.refl _ _) rfl (World.ownsRow_nil _ _ _ _) (by rw [HFL2.out]; simp; omega)).mono ?_
  rintro e x7 ⟨ay, my, cpy, rfl, hm, ho, hb, hft⟩
  rw [List.nil_append, HFL2.out] at hm
  rw [List.nil_append] at ho
  subst hm
  obtain ⟨gy, cy, hgy, hgyb, _, _, csy, hay⟩ := ownFull ho (by omega)
  simp only [Value.slice.injEq] at hgy
  obtain ⟨rfl, _, rfl⟩ := hgy
  have HGY := Lib.hid (show ∀ k, k < N + 12 → x7.cell? ⟨gy, k, none⟩ = some (il (L2 k)) from fun k hk => by
    rw [World.ownsRow.cellAt ho k (by omega), List.getElem?_map, flat_get N L2 k hk]; rfl)
  have HGX := Lib.hid (show ∀ k, k < N + 12 → x7.cell? ⟨gx, k, none⟩ = some (il (L k)) from fun k hk => kept hb (by rw [HAX6.out.cell]; exact HGX5.out k hk))
  have lgx := (HAX6.out.below hb HAX6.out.lt).lt
  have lgy := hay.lt
  have HTR7 := Lib.hid (HTR6.out.below hb)
  have A7 := Lib.hid (A6.out.below hb A6.out.lt)
  have HB27 := Lib.hid (HB26.out.trans (hb.mono HB26.out.size))
  have HW7 := Lib.hid (HB2.out.trans (HB27.out.mono HB2.out.size))
  obtain ⟨m, hm⟩ : ∃ m, m = N + 12 := ⟨_, rfl⟩
  obtain ⟨M2, hM2⟩ : ∃ M2, M2 = N + 10 := ⟨_, rfl⟩
  obtain ⟨M1, hM1⟩ : ∃ M1, M1 = N + 11 := ⟨_, rfl⟩
  rw [← hm]
  rw [← hm] at HGX HGY
  have hm1 : (m : Int) ≤ 70000 := by omega
  have hm0 : (12 : Int) ≤ (m : Int) := by omega
  have hM21 : M2 < m := by omega
  have hM11 : M1 < m := by omega
  have hmm2 : (m : Int) - 2 = (M2 : Int) := by omega
  have hmm1 : (m : Int) - 1 = (M1 : Int) := by omega
  have HM2 := Lib.hid hM2
  have HM1 := Lib.hid hM1
  have hM2a : (0 : Int) ≤ (M2 : Int) := Int.natCast_nonneg _
  have hM1a : (0 : Int) ≤ (M1 : Int) := Int.natCast_nonneg _
  have hM2i : (M2 : Int) < (m : Int) := by omega
  have hM1i : (M1 : Int) < (m : Int) := by omega
  clear ho hb hft d0 d1 lrx hay hm hM2 hM1 csy
  go_wp2_with fail
  go_loopw [13] (fun i wr => CL M2 x7 i wr) (fun i _ => M2 - (intOf i).toNat)
  case atStart => exact ⟨0, 0, rfl, Nat.zero_le _, Lib.hid (World.drewN_zero _).symm⟩
  case round =>
    obtain ⟨k, q, rfl, hk, HW⟩ := hrel
    obtain rfl := HW.out
    by_cases hlt : k < M2
    · have c0 : (x7.drewN q).cell? ⟨gx, k, none⟩ = some (il (L k)) := HGX.out k (by omega)
      have c1 : (x7.drewN q).cell? ⟨gy, k, none⟩ = some (il (L2 k)) := HGY.out k (by omega)
      have l0 := World.block_lt_of_cell? _ _ c0
      have l1 := World.block_lt_of_cell? _ _ c1
      obtain ⟨W, hW⟩ : ∃ W, W = x7.drewN q := ⟨_, rfl⟩
      obtain ⟨z, hz⟩ : ∃ z, z = L k := ⟨_, rfl⟩
      obtain ⟨z', hz'⟩ : ∃ z', z' = L2 k := ⟨_, rfl⟩
      have e1 : wrap32 (z + ((p1 : Int) + 1)) = z' := by rw [hz, hz', HLO.out k (by have := HM2.out; omega)]
      have e2 : IntKind.i32.wrap (z + ((p1 : Int) + 1)) = z' := by rw [IntWalk.i32_left]; exact e1
      rw [← hW, ← hz] at c0
      rw [← hW, ← hz'] at c1
      rw [← hW] at l0 l1
      rw [← hW]
      have HWW := Lib.hid hW
      have hki : (k : Int) < (m : Int) := by omega
      have hki2 : (k : Int) < (M2 : Int) := by omega
      have hk0 : (0 : Int) ≤ (k : Int) := Int.natCast_nonneg _
      clear hW hz hz'
      go_wp2_with fail
      go_quiet (fail)
      go_wp2_with fail
      go_roundw
      case rel => exact ⟨k + 1, q + nq, by go_num, by omega, Lib.hid (by rw [HWW.out, World.drewN_drewN])⟩
      case measure => simp [intOf]; omega
    · obtain rfl : M2 = k := by omega
      have c0 : (x7.drewN q).cell? ⟨gx, M2, none⟩ = some (il (L M2)) := HGX.out _ (by omega)
      have c1 : (x7.drewN q).cell? ⟨gy, M2, none⟩ = some (il (L M2)) := by rw [← HHI.out M2 (by have := HM2.out; omega)]; exact HGY.out _ (by omega)
      have c2 : (x7.drewN q).cell? ⟨gx, M1, none⟩ = some (il (L M1)) := HGX.out _ (by omega)
      have c3 : (x7.drewN q).cell? ⟨gy, M1, none⟩ = some (il (L M1)) := by rw [← HHI.out M1 (by have := HM1.out; omega)]; exact HGY.out _ (by omega)
      obtain ⟨u, hu⟩ : ∃ u, u = L M2 := ⟨_, rfl⟩
      obtain ⟨v, hv⟩ : ∃ v, v = L M1 := ⟨_, rfl⟩
      rw [← hu] at c0 c1
      rw [← hv] at c2 c3
      have l0 := World.block_lt_of_cell? _ _ c0
      have l1 := World.block_lt_of_cell? _ _ c1
      have HTRq := Lib.hid (show TR (x7.drewN q) x2.heap.size ra N L2 ib cap eo pb ea ib2 ed es n5 n6 n11 from HTR7.out.below (below_drewN (Below.refl _ _) _))
      have Aq := Lib.hid (show At (x7.drewN q) rx 35 #[ex 255 ra, il (L2 0)] from A7.out)
      have HWq := Lib.hid (below_drewN HW7.out q)
      obtain ⟨W, hW⟩ : ∃ W, W = x7.drewN q := ⟨_, rfl⟩
      rw [← hW] at c0 c1 c2 c3 l0 l1 HTRq Aq HWq
      rw [← hW]
      clear hW hu hv HTR7 A7 HW7
      go_wp2_with fail
      go_quiet (fail)
      obtain ⟨V, hV⟩ : ∃ V, V = W.drewN nq := ⟨_, rfl⟩
      have HTV := Lib.hid (show TR V x2.heap.size ra N L2 ib cap eo pb ea ib2 ed es n5 n6 n11 from by rw [hV]; exact HTRq.out.below (below_drewN (Below.refl _ _) _))
      have AV := Lib.hid (show At V rx 35 #[ex 255 ra, il (L2 0)] from by rw [hV]; exact Aq.out)
      have HWV := Lib.hid (show Below w.heap.size w V from by rw [hV]; exact below_drewN HWq.out _)
      rw [← hV]
      clear hV c0 c1 c2 c3 l0 l1 HTRq Aq HWq
      have r0 : V.cell? ⟨rx, 0, none⟩ = some (ex 255 ra) := by rw [AV.out.cell]; rfl
      have r1 : V.cell? ⟨rx, 1, none⟩ = some (il (L2 0)) := by rw [AV.out.cell]; rfl
      have lrx := AV.out.lt
      go_wp2_with fail
      refine (asArr ra (L2 0) (L2 1) (.bool false) (il 0) (.bool false) (.bool false) (some ⟨ib, 0, none⟩) (N + 2) cap V HTV.out.root).mono ?_
      rintro e V1 ⟨rfl, hb⟩
      have HT1V := Lib.hid (HTV.out.below hb)
      have HW1 := Lib.hid (HWV.out.trans (hb.mono HWV.out.size))
      have hcap := HTV.out.capN.1
      have hcap2 := HTV.out.capN.2
      have tN : (((N + 2 : Nat) : Int) != (N : Int) + 2) = false := by simp
      have tN2 : ((N : Int) + 2 != (N : Int) + 2) = false := by simp
      have hNc : ((N + 2 : Nat) : Int) = (N : Int) + 2 := by omega
      unfold maxLen at hcap2
      clear hb r0 r1 lrx
      go_wp2_with fail
      go_loopw [17] (fun i wr => IL N V1 i wr) (fun i _ => N - (intOf i).toNat)
      case atStart => exact ⟨0, rfl, Nat.zero_le _, Lib.hid (Below.refl _ _)⟩
      case round =>
        rename World => wq
        obtain ⟨j, rfl, hj, HBJ⟩ := hrel
        have HTJ := Lib.hid (HT1V.out.below HBJ.out)
        obtain ⟨cs, q1, q2, qa, qb, qc, qd⟩ := HTJ.out.row
        have lib := q1.lt
        by_cases hlj : j < N
        · obtain ⟨p, h1, h2, h3⟩ := q2 j hlj
          have e0 : wq.cell? ⟨ib, j * 2, none⟩ = some (ex 212 p) := by rw [q1.cell]; exact h1
          have e1 : wq.cell? ⟨ib, j * 2 + 1, none⟩ = some (il (L2 (2 + j))) := by rw [q1.cell]; exact h2
          obtain ⟨z, hz⟩ : ∃ z, z = L2 (2 + j) := ⟨_, rfl⟩
          rw [← hz] at e1
          have H3 := Lib.hid h3
          have hji : (j : Int) < (N : Int) := by omega
          have hj0 : (0 : Int) ≤ (j : Int) := Int.natCast_nonneg _
          have hji2 : (j : Int) < (N : Int) + 2 := by omega
          clear q1 q2 qa qb qc qd h1 h2 h3 hz cs
          go_wp2_with fail
          refine (sameNum p (FloatKind.f64.nearest (j : Int)) z wq H3.out).mono ?_
          rintro e w3 ⟨rfl, hb⟩
          have HBK := Lib.hid (HBJ.out.trans (hb.mono HBJ.out.size))
          clear hb e0 e1
          go_wp2_with fail
          go_roundw
          case rel => exact ⟨j + 1, by go_num, by omega, HBK⟩
          case measure => simp [intOf]; omega
        · obtain rfl : N = j := by omega
          have e0 : wq.cell? ⟨ib, N * 2, none⟩ = some (ex 59 eo) := by rw [q1.cell]; exact qa
          have e1 : wq.cell? ⟨ib, N * 2 + 1, none⟩ = some (il (L2 (N + 2))) := by rw [q1.cell]; exact qb
          have HWJ := Lib.hid (HW1.out.trans (HBJ.out.mono HW1.out.size))
          have hN2 : (N : Int) < (N : Int) + 2 := by omega
          clear q1 q2 qa qb qc qd cs
          go_wp2_with fail
          refine (asOb eo pb 1 223 255 es ea (L2 (N + 2)) (L2 (N + 3)) (L2 (N + 4)) (L2 (N + 5)) (il 0) (.bool false) (.bool false) wq HTJ.out.obj HTJ.out.prop).mono ?_
          rintro e y1 ⟨rfl, hb⟩
          have HTY := Lib.hid (HTJ.out.below hb)
          have HWY := Lib.hid (HWJ.out.trans (hb.mono HWJ.out.size))
          clear hb e0 e1 lib
          obtain ⟨Y, hY⟩ : ∃ Y, Y = (y1.alloc (.cells #[ex 223 es, il (L2 (N + 4))] 35)).alloc (.cells #[ex 255 ea, il (L2 (N + 5))] 35) := ⟨_, rfl⟩
          have bY : Below y1.heap.size y1 Y := by rw [hY]; exact ((Below.refl _ _).alloc (Nat.le_refl _) _).alloc (by simp) _
          have K1 := Lib.hid (show At Y y1.heap.size 35 #[ex 223 es, il (L2 (N + 4))] from by rw [hY]; exact (At.new y1 35 _).alloc _)
          have K2 := Lib.hid (show At Y (y1.heap.size + 1) 35 #[ex 255 ea, il (L2 (N + 5))] from by rw [hY]; exact at2 _ _ _ _)
          have HTY2 := Lib.hid (HTY.out.below bY)
          have HWY2 := Lib.hid (HWY.out.trans (bY.mono HWY.out.size))
          have HYY := Lib.hid hY
          clear hY bY
          go_wp2_with fail
          rw [← HYY.out]
          refine (asStr es (L2 (N + 4)) Y HTY2.out.str).mono ?_
          rintro e y2 ⟨rfl, hb⟩
          have K22 := Lib.hid (K2.out.below hb K2.out.lt)
          have HTY3 := Lib.hid (HTY2.out.below hb)
          have HWY3 := Lib.hid (HWY2.out.trans (hb.mono HWY2.out.size))
          have k0 : y2.cell? ⟨y1.heap.size + 1, 0, none⟩ = some (ex 255 ea) := by rw [K22.out.cell]; rfl
          have k1 : y2.cell? ⟨y1.heap.size + 1, 1, none⟩ = some (il (L2 (N + 5))) := by rw [K22.out.cell]; rfl
          have lk := K22.out.lt
          clear hb
          go_wp2_with fail
          refine (asArr ea (L2 (N + 5)) (L2 (N + 6)) (.bool false) (il 0) (.bool false) (.bool false) (some ⟨ib2, 0, none⟩) 2 2 y2 HTY3.out.arr).mono ?_
          rintro e y3 ⟨rfl, hb⟩
          have HTY4 := Lib.hid (HTY3.out.below hb)
          have HWY4 := Lib.hid (HWY3.out.trans (hb.mono HWY3.out.size))
          have f0 : y3.cell? ⟨ib2, 0, none⟩ = some (ex 212 n5) := by rw [HTY4.out.row2.cell]; rfl
          have f1 : y3.cell? ⟨ib2, 1, none⟩ = some (il (L2 (N + 7))) := by rw [HTY4.out.row2.cell]; rfl
          have f2 : y3.cell? ⟨ib2, 2, none⟩ = some (ex 212 n6) := by rw [HTY4.out.row2.cell]; rfl
          have f3 : y3.cell? ⟨ib2, 3, none⟩ = some (il (L2 (N + 8))) := by rw [HTY4.out.row2.cell]; rfl
          have lf := HTY4.out.row2.lt
          clear hb k0 k1 lk
          go_wp2_with fail
          refine (sameNum n5 13830554455654793216 (L2 (N + 7)) y3 HTY4.out.f5).mono ?_
          rintro e y4 ⟨rfl, hb⟩
          have HTY5 := Lib.hid (HTY4.out.below hb)
          have HWY5 := Lib.hid (HWY4.out.trans (hb.mono HWY4.out.size))
          have f2' := kept hb f2
          have f3' := kept hb f3
          have lf' := World.block_lt_of_cell? _ _ f2'
          clear hb f0 f1 f2 f3 lf
          go_wp2_with fail
          refine (sameNum n6 13835058055282163712 (L2 (N + 8)) y4 HTY5.out.f6).mono ?_
          rintro e y5 ⟨rfl, hb⟩
          have HTY6 := Lib.hid (HTY5.out.below hb)
          have HWY6 := Lib.hid (HWY5.out.trans (hb.mono HWY5.out.size))
          clear hb f2' f3' lf'
          obtain ⟨cs, q1, q2, qa, qb, qc, qd⟩ := HTY6.out.row
          have e0 : y5.cell? ⟨ib, (N + 1) * 2, none⟩ = some (ex 262 ed) := by rw [q1.cell]; exact qc
          have e1 : y5.cell? ⟨ib, (N + 1) * 2 + 1, none⟩ = some (il (L2 (N + 9))) := by rw [q1.cell]; exact qd
          have lib := q1.lt
          have hN3 : (N : Int) + 1 < (N : Int) + 2 := by omega
          have htn : ((N : Int) + 1).toNat = N + 1 := by omega
          clear q1 q2 qa qb qc qd cs
          go_wp2_with fail
          refine (asDt ed 212 n11 (L2 (N + 9)) (L2 (N + 10)) (L2 (N + 11)) y5 HTY6.out.dot).mono ?_
          rintro e y6 ⟨rfl, hb⟩
          have HTY7 := Lib.hid (HTY6.out.below hb)
          have HWY7 := Lib.hid (HWY6.out.trans (hb.mono HWY6.out.size))
          clear hb e0 e1 lib htn
          obtain ⟨Z, hZ⟩ : ∃ Z, Z = y6.alloc (.cells #[ex 212 n11, il (L2 (N + 11))] 35) := ⟨_, rfl⟩
          have bZ : Below y6.heap.size y6 Z := by rw [hZ]; exact (Below.refl _ _).alloc (Nat.le_refl _) _
          have HTZ := Lib.hid (HTY7.out.below bZ)
          have HWZ := Lib.hid (HWY7.out.trans (bZ.mono HWY7.out.size))
          have HZZ := Lib.hid hZ
          clear hZ bZ
          go_wp2_with fail
          rw [← HZZ.out]
          refine (sameNum n11 13837309855095848960 (L2 (N + 11)) Z HTZ.out.f11).mono ?_
          rintro e y7 ⟨rfl, hb⟩
          have HWF := Lib.hid (HWZ.out.trans (hb.mono HWZ.out.size))
          clear hb
          go_wp2_with fail
          go_ret
          exact ⟨rfl, HWF.out⟩

theorem walk (a0 : ByteArray) (a1 : Int) (a2 : Option Addr) (len2 cap2 : Nat) (z2 : List Int) (w : World) (w0 : a0.size ≤ maxLen) (w1 : (Lit.int .u16 a1).wf = true) (w2 : IsRow .i32 w a2 len2 cap2 z2) (hL : laidMetH Tryd.prog [("unicode/utf8.acceptRanges", Rows.laid_unicode_utf8_acceptRanges), ("unicode/utf8.first", Rows.laid_unicode_utf8_first)] w) :
    Calls Tryd.prog 7 #[.string a0, .int .u16 a1, .slice a2 len2 cap2] w fun e w' => e = .returned (.bool true) ∧ Below w.heap.size w w' := by
  by_cases h : a0.size ≤ 65536 ∧ len2 ≤ 65536
  · obtain ⟨p1, rfl, h1⟩ := wf_u16' w1
    exact wOK a0 p1 a2 len2 cap2 z2 w h1 w2 (tabs hL) h.1 h.2
  · exact wBad a0 a1 a2 len2 cap2 z2 w w0 w1 w2 h
end fnRemapLocsInJSONShiftsByOpeningQuote
end Go.Proofs.YtjlmaingeobgeaaDoor
