/- Proved here: the walk of the law FnRemapLocsInJSONComposesAsOneShift. Conditions as stated. -/
import Derived.Test.YtjlmaingeobgeaaDoorRJT
import Derived.WalkKit
import Derived.WalkSpells
import Derived.WalkLawsBesides
import Derived.Lib.Hide
import Derived.Lib.SliceRun
import Derived.Deep.RegionWith
import Derived.OwnWalk
import Derived.Laws.OwnMore
import Derived.BigRegion
import Derived.Deep.QuietTactic
import Derived.BigQuiet
import Derived.Carry
namespace Go.Proofs.YtjlmaingeobgeaaDoor
open Go.RowKit
set_option linter.unusedSimpArgs false
set_option linter.unusedVariables false
namespace fnRemapLocsInJSONComposesAsOneShift

set_option maxRecDepth 100000 in
set_option maxHeartbeats 4000000 in
theorem wBad (a0 a1 a2 : ByteArray) (a3 a4 : Int) (a5 : Option Addr) (len5 cap5 : Nat) (z5 : List Int) (w : World) (w0 : a0.size ≤ maxLen) (w1 : a1.size ≤ maxLen) (w2 : a2.size ≤ maxLen) (w3 : (Lit.int .u16 a3).wf = true) (w4 : (Lit.int .u16 a4).wf = true) (w5 : IsRow .i32 w a5 len5 cap5 z5) (hbad : ¬ (a0.size ≤ 65536 ∧ a1.size ≤ 65536 ∧ a2.size ≤ 65536 ∧ len5 ≤ 65536)) :
    Calls Tryd.prog 6 #[.string a0, .string a1, .string a2, .int .u16 a3, .int .u16 a4, .slice a5 len5 cap5] w fun e w' => e = .returned (.bool true) ∧ Below w.heap.size w w' := by
  have L5 := row_len w5
  unfold maxLen at w0 w1 w2
  have g0 : (0 : Int) ≤ (a0.size : Int) ∧ (a0.size : Int) ≤ 9223372036854775807 := by omega
  have g1 : (0 : Int) ≤ (a1.size : Int) ∧ (a1.size : Int) ≤ 9223372036854775807 := by omega
  have g2 : (0 : Int) ≤ (a2.size : Int) ∧ (a2.size : Int) ≤ 9223372036854775807 := by omega
  have g5 : (0 : Int) ≤ (len5 : Int) ∧ (len5 : Int) ≤ 9223372036854775807 := by omega
  obtain ⟨g0a, g0b⟩ := g0
  obtain ⟨g1a, g1b⟩ := g1
  obtain ⟨g2a, g2b⟩ := g2
  obtain ⟨g5a, g5b⟩ := g5
  have hc : 65536 < a0.size ∨ (a0.size ≤ 65536 ∧ 65536 < a1.size) ∨ (a0.size ≤ 65536 ∧ a1.size ≤ 65536 ∧ 65536 < a2.size) ∨ (a0.size ≤ 65536 ∧ a1.size ≤ 65536 ∧ a2.size ≤ 65536 ∧ 65536 < len5) := by omega
  clear hbad w3 w4 w5
  rcases hc with h | ⟨h, k⟩ | ⟨h, k, l⟩ | ⟨h, k, l, m⟩
  · have t0 : (65536 : Int) < (a0.size : Int) := by omega
    go_enter Tryd.func6, Tryd.ntmps6
    go_wp2_with fail
    refine (zz36 a0 a1 a2 a3 a4 a5 len5 cap5 w (by omega) (by omega) (by omega) (by omega)).mono ?_
    rintro e w' ⟨zb, rfl, rfl⟩
    cases zb
    · go_wp2_with fail
      go_ret
      exact ⟨rfl, Below.refl _ _⟩
    · go_wp2_with fail
      go_ret
      exact ⟨rfl, Below.refl _ _⟩
  · have t0 : ¬ (65536 : Int) < (a0.size : Int) := by omega
    have t1 : (65536 : Int) < (a1.size : Int) := by omega
    go_enter Tryd.func6, Tryd.ntmps6
    go_wp2_with fail
    refine (zz36 a0 a1 a2 a3 a4 a5 len5 cap5 w (by omega) (by omega) (by omega) (by omega)).mono ?_
    rintro e w' ⟨zb, rfl, rfl⟩
    cases zb
    · go_wp2_with fail
      go_ret
      exact ⟨rfl, Below.refl _ _⟩
    · go_wp2_with fail
      go_ret
      exact ⟨rfl, Below.refl _ _⟩
  · have t0 : ¬ (65536 : Int) < (a0.size : Int) := by omega
    have t1 : ¬ (65536 : Int) < (a1.size : Int) := by omega
    have t2 : (65536 : Int) < (a2.size : Int) := by omega
    go_enter Tryd.func6, Tryd.ntmps6
    go_wp2_with fail
    refine (zz36 a0 a1 a2 a3 a4 a5 len5 cap5 w (by omega) (by omega) (by omega) (by omega)).mono ?_
    rintro e w' ⟨zb, rfl, rfl⟩
    cases zb
    · go_wp2_with fail
      go_ret
      exact ⟨rfl, Below.refl _ _⟩
    · go_wp2_with fail
      go_ret
      exact ⟨rfl, Below.refl _ _⟩
  · have t0 : ¬ (65536 : Int) < (a0.size : Int) := by omega
    have t1 : ¬ (65536 : Int) < (a1.size : Int) := by omega
    have t2 : ¬ (65536 : Int) < (a2.size : Int) := by omega
    have t3 : (65536 : Int) < (len5 : Int) := by omega
    go_enter Tryd.func6, Tryd.ntmps6
    go_wp2_with fail
    refine (zz36 a0 a1 a2 a3 a4 a5 len5 cap5 w (by omega) (by omega) (by omega) (by omega)).mono ?_
    rintro e w' ⟨zb, rfl, rfl⟩
    cases zb
    · go_wp2_with fail
      go_ret
      exact ⟨rfl, Below.refl _ _⟩
    · go_wp2_with fail
      go_ret
      exact ⟨rfl, Below.refl _ _⟩

def CL (m : Nat) (w W : World) (i : Value) (wr : World) : Prop := ∃ k q : Nat, i = .int .i64 k ∧ k ≤ m ∧ Hid (wr = W.drewN q)
set_option maxRecDepth 100000 in
set_option maxHeartbeats 16000000 in
theorem wOK (a0 a1 a2 : ByteArray) (p1 p2 : Nat) (a5 : Option Addr) (N cap5 : Nat) (z5 : List Int) (w : World) (hp1 : p1 ≤ 65535) (hp2 : p2 ≤ 65535) (w5 : IsRow .i32 w a5 N cap5 z5) (hT : Lib.Utf8Tabs 1 2 w) (h0 : a0.size ≤ 65536) (h1 : a1.size ≤ 65536) (h2 : a2.size ≤ 65536) (hN : N ≤ 65536) :
    Calls Tryd.prog 6 #[.string a0, .string a1, .string a2, .int .u16 (p1 : Int), .int .u16 (p2 : Int), .slice a5 N cap5] w fun e w' => e = .returned (.bool true) ∧ Below w.heap.size w w' := by
  have g0 : (0 : Int) ≤ (a0.size : Int) ∧ (a0.size : Int) ≤ 65536 := by omega
  have g1 : (0 : Int) ≤ (a1.size : Int) ∧ (a1.size : Int) ≤ 65536 := by omega
  have g2 : (0 : Int) ≤ (a2.size : Int) ∧ (a2.size : Int) ≤ 65536 := by omega
  have g5 : (0 : Int) ≤ (N : Int) ∧ (N : Int) ≤ 65536 := by omega
  have g3 : (0 : Int) ≤ (p1 : Int) ∧ (p1 : Int) ≤ 65535 := by omega
  have g4 : (0 : Int) ≤ (p2 : Int) ∧ (p2 : Int) ≤ 65535 := by omega
  obtain ⟨g0a, g0b⟩ := g0
  obtain ⟨g1a, g1b⟩ := g1
  obtain ⟨g2a, g2b⟩ := g2
  obtain ⟨g3a, g3b⟩ := g3
  obtain ⟨g4a, g4b⟩ := g4
  obtain ⟨g5a, g5b⟩ := g5
  have HZ := Lib.hid (fun j => row_in w5 j)
  have HL := Lib.hid (fun i => LL_in HZ.out N i)
  have HR := Lib.hid w5
  have HT := Lib.hid hT
  clear w5 hT
  go_enter Tryd.func6, Tryd.ntmps6
  go_wp2_with fail
  refine (zz36 a0 a1 a2 p1 p2 a5 N cap5 w (by omega) (by omega) (by omega) (by omega)).mono ?_
  rintro e w' ⟨zb, rfl, rfl⟩
  cases zb
  · go_wp2_with fail
    go_ret
    exact ⟨rfl, Below.refl _ _⟩
  obtain ⟨sm, hsm⟩ : ∃ sm : Int, sm = 2 * ((a0.size : Int) + (a1.size : Int) + (a2.size : Int)) + 4 * (N : Int) + 4 * (p1 : Int) + 4 * (p2 : Int) := ⟨_, rfl⟩
  by_cases hbig : (1048576 : Int) < 2 * ((a0.size : Int) + (a1.size : Int) + (a2.size : Int)) + 4 * (N : Int) + 4 * (p1 : Int) + 4 * (p2 : Int)
  · clear hsm
    go_wp2_with fail
    go_ret
    exact ⟨rfl, Below.refl _ _⟩
  clear hsm
  go_wp2_with fail
  refine (cloneAny a5 N cap5 z5 w HR.out (by omega)).mono ?_
  rintro e x1 ⟨lb, ac, rfl, hac, hcs, hb⟩
  have HA := Lib.hid hac
  have HC := Lib.hid hcs
  have HB := Lib.hid hb
  clear hac hcs hb hbig
  go_wp2_with fail
  refine (makeTableC a0 p1 (p1 : Int) x1 rfl h0 (by omega) (tabsBelow HT.out HB.out)).mono ?_
  rintro e x2 ⟨g1, c1, rfl, ho, hb⟩
  have HT1 := Lib.hid (TB.of ho)
  have HB2 := Lib.hid (HB.out.trans (hb.mono HB.out.size))
  have HC2 := Lib.hid (show ∀ j, j < N → x2.cell? ⟨lb, j, none⟩ = some (il (z5.getD j 0)) from fun j hj => kept hb (HC.out j hj))
  clear ho hb
  go_wp2_with fail
  refine (makeTableC a1 p2 (p2 : Int) x2 rfl h1 (by omega) (tabsBelow HT.out HB2.out)).mono ?_
  rintro e x3 ⟨g2, c2, rfl, ho, hb⟩
  have HT2 := Lib.hid (TB.of ho)
  have HT13 := Lib.hid (HT1.out.below hb)
  have HB3 := Lib.hid (HB2.out.trans (hb.mono HB2.out.size))
  have HC3 := Lib.hid (show ∀ j, j < N → x3.cell? ⟨lb, j, none⟩ = some (il (z5.getD j 0)) from fun j hj => kept hb (HC2.out j hj))
  clear ho hb
  go_wp2_with fail
  refine (makeTableC a2 (p1 + p2 + 1) _ x3 (by omega) h2 (by omega) (tabsBelow HT.out HB3.out)).mono ?_
  rintro e x4 ⟨g3, c3, rfl, ho, hb⟩
  have HT3 := Lib.hid (TB.of ho)
  have HT14 := Lib.hid (HT13.out.below hb)
  have HT24 := Lib.hid (HT2.out.below hb)
  have HB4 := Lib.hid (HB3.out.trans (hb.mono HB3.out.size))
  have HC4 := Lib.hid (show ∀ j, j < N → x4.cell? ⟨lb, j, none⟩ = some (il (z5.getD j 0)) from fun j hj => kept hb (HC3.out j hj))
  clear ho hb
  go_wp2_with fail
  refine (bTree ac lb N z5 x4 hN HA.out HC4.out).mono ?_
  rintro e x5 ⟨ra, ib, cap, eo, pb, ea, ib2, ed, es, n5, n6, n11, rfl, htr, hb⟩
  have HTR := Lib.hid htr
  have HQ5 := Lib.hid hb
  clear htr hb
  go_wp2_with fail
  obtain ⟨x6, hx6⟩ : ∃ x6, x6 = x5.alloc (.cells #[ex 255 ra, il (LL z5 N 0)] 35) := ⟨_, rfl⟩
  obtain ⟨rx, hrx⟩ : ∃ rx, rx = x5.heap.size := ⟨_, rfl⟩
  have A6 := Lib.hid (show At x6 rx 35 #[ex 255 ra, il (LL z5 N 0)] from by rw [hx6, hrx]; exact At.new _ _ _)
  have b56 : Below x5.heap.size x5 x6 := by rw [hx6]; exact (Below.refl _ _).alloc (Nat.le_refl _) _
  have HTR6 := Lib.hid (HTR.out.below b56)
  have HB46 := Lib.hid (HQ5.out.trans (b56.mono HQ5.out.size))
  have hrn : x4.heap.size ≤ rx ∧ rx ≠ ib ∧ rx ≠ ib2 := by
    obtain ⟨cs, r1, _⟩ := HTR.out.row
    have h1 := r1.lt
    have h2 := HTR.out.row2.lt
    have := HQ5.out.size
    omega
  have HRN := Lib.hid hrn
  rw [← hx6, ← hrx]
  clear hx6 hrx b56 hrn
  refine (wrap38 (rTree x6 rx g1 c1 x4.heap.size ra N ((p1 + 1 : Nat) : Int) (LL z5 N) ib cap eo pb ea ib2 ed es n5 n6 n11 hN (by omega) HL.out HTR6.out A6.out HRN.out (HT14.out.below HB46.out) HB46.out.size) (fun _ _ h => h.1)).mono ?_
  rintro e x7 ⟨rfl, hst⟩
  have HS1 := Lib.hid hst
  clear hst
  go_wp2_with fail
  have HB47 := Lib.hid (HB46.out.trans HS1.out.fr)
  refine (wrap38 (rTree x7 rx g2 c2 x4.heap.size ra N ((p2 + 1 : Nat) : Int) (shM ((p1 + 1 : Nat) : Int) (N + 10) (LL z5 N)) ib cap eo pb ea ib2 ed es n5 n6 n11 hN (by omega) (fun i => shM_in HL.out _ _ i) HS1.out.tr (by have := HS1.out.vr; rw [show shM ((p1 + 1 : Nat) : Int) (N + 10) (LL z5 N) 0 = sh ((p1 + 1 : Nat) : Int) (LL z5 N 0) from if_pos (by omega)]; exact this) HRN.out (HT24.out.below HB47.out) HB47.out.size) (fun _ _ h => h.1)).mono ?_
  rintro e x8 ⟨rfl, hst⟩
  have HS2 := Lib.hid hst
  clear hst
  have HB48 := Lib.hid (HB47.out.trans HS2.out.fr)
  go_wp2_with fail
  refine (bTree ac lb N z5 x8 hN HA.out (fun j hj => kept HB48.out (HC4.out j hj))).mono ?_
  rintro e x9 ⟨rb, iby, capy, eoy, pby, eay, ib2y, edy, esy, n5y, n6y, n11y, rfl, htr, hb⟩
  have HTY := Lib.hid htr
  have HQ9 := Lib.hid hb
  clear htr hb
  go_wp2_with fail
  obtain ⟨x10, hx10⟩ : ∃ x10, x10 = x9.alloc (.cells #[ex 255 rb, il (LL z5 N 0)] 35) := ⟨_, rfl⟩
  obtain ⟨ry, hry⟩ : ∃ ry, ry = x9.heap.size := ⟨_, rfl⟩
  have A10 := Lib.hid (show At x10 ry 35 #[ex 255 rb, il (LL z5 N 0)] from by rw [hx10, hry]; exact At.new _ _ _)
  have b910 : Below x9.heap.size x9 x10 := by rw [hx10]; exact (Below.refl _ _).alloc (Nat.le_refl _) _
  have HTY10 := Lib.hid (HTY.out.below b910)
  have HB810 := Lib.hid (HQ9.out.trans (b910.mono HQ9.out.size))
  have hrn : x8.heap.size ≤ ry ∧ ry ≠ iby ∧ ry ≠ ib2y := by
    obtain ⟨cs, r1, _⟩ := HTY.out.row
    have h1 := r1.lt
    have h2 := HTY.out.row2.lt
    have := HQ9.out.size
    omega
  have HRY := Lib.hid hrn
  rw [← hx10, ← hry]
  clear hx10 hry b910 hrn
  have HB410 := Lib.hid (HB48.out.trans (HB810.out.mono HB48.out.size))
  refine (wrap38 (rTree x10 ry g3 c3 x8.heap.size rb N ((p1 + p2 + 1 + 1 : Nat) : Int) (LL z5 N) iby capy eoy pby eay ib2y edy esy n5y n6y n11y hN (by omega) HL.out HTY10.out A10.out HRY.out (HT3.out.below HB410.out) HB810.out.size) (fun _ _ h => h.1)).mono ?_
  rintro e x11 ⟨rfl, hst⟩
  have HS3 := Lib.hid hst
  clear hst
  have HB811 := Lib.hid (HB810.out.trans HS3.out.fr)
  have HX11 := Lib.hid (HS2.out.tr.below HB811.out)
  have AX11 := Lib.hid (HS2.out.vr.below HB811.out HS2.out.vr.lt)
  have AY11 := Lib.hid HS3.out.vr
  obtain ⟨Lx, hLx⟩ : ∃ Lx, Lx = shM ((p2 + 1 : Nat) : Int) (N + 10) (shM ((p1 + 1 : Nat) : Int) (N + 10) (LL z5 N)) := ⟨_, rfl⟩
  have hLy : shM ((p1 + p2 + 1 + 1 : Nat) : Int) (N + 10) (LL z5 N) = Lx := by
    rw [hLx]
    funext i
    unfold shM
    by_cases c : i < N + 10
    · rw [if_pos c, if_pos c, if_pos c, sh_twice _ _ _ (by omega) (by omega) (HL.out i)]
      congr 1
      omega
    · rw [if_neg c, if_neg c, if_neg c]
  have ex0 : sh ((p2 + 1 : Nat) : Int) (shM ((p1 + 1 : Nat) : Int) (N + 10) (LL z5 N) 0) = Lx 0 := by rw [hLx]; exact (if_pos (by omega)).symm
  have ey0 : sh ((p1 + p2 + 1 + 1 : Nat) : Int) (LL z5 N 0) = Lx 0 := by rw [← hLy]; exact (if_pos (by omega)).symm
  have cx0 : x11.cell? ⟨rx, 0, none⟩ = some (ex 255 ra) := by rw [AX11.out.cell]; rfl
  have cx1 : x11.cell? ⟨rx, 1, none⟩ = some (il (Lx 0)) := by rw [AX11.out.cell, ← ex0]; rfl
  have lx := AX11.out.lt
  have HFX := Lib.hid (show FLC x11 255 ra (Lx 0) (flat N Lx) from by
    have h := HX11.out
    rw [← hLx] at h
    exact flTree h hN)
  have HTYL := Lib.hid (show TR x11 x8.heap.size rb N Lx iby capy eoy pby eay ib2y edy esy n5y n6y n11y from by have h := HS3.out.tr; rw [hLy] at h; exact h)
  have AYL := Lib.hid (show At x11 ry 35 #[ex 255 rb, il (Lx 0)] from by have h := AY11.out; rw [ey0] at h; exact h)
  have HFL := Lib.hid (flat_len N Lx)
  clear hLx hLy ex0 ey0
  go_wp2_with fail
  refine (HFX.out x11 none 0 0 [] (Below.refl _ _) rfl (World.ownsRow_nil _ _ _ _) (by rw [HFL.out]; simp; omega)).mono ?_
  rintro e x12 ⟨ax, mx, cpx, rfl, hm, ho, hb, hft⟩
  rw [List.nil_append, HFL.out] at hm
  rw [List.nil_append] at ho
  subst hm
  have AY12 := AYL.out.below hb AYL.out.lt
  have cy0 : x12.cell? ⟨ry, 0, none⟩ = some (ex 255 rb) := by rw [AY12.cell]; rfl
  have cy1 : x12.cell? ⟨ry, 1, none⟩ = some (il (Lx 0)) := by rw [AY12.cell]; rfl
  have ly := AY12.lt
  have HOX := Lib.hid ho
  have HFY := Lib.hid (flTree (HTYL.out.below hb) hN)
  have HB12 := Lib.hid (HB4.out.trans (HB410.out.trans (HS3.out.fr.mono HB48.out.size) |>.trans (hb.mono (by have := HB410.out.size; have := HS3.out.fr.size; omega)) |>.mono HB4.out.size))
  clear ho hb hft cx0 cx1 lx AY12
  go_wp2_with fail
  refine (HFY.out x12 none 0 0 [] (Below.refl _ _) rfl (World.ownsRow_nil _ _ _ _) (by rw [HFL.out]; simp; omega)).mono ?_
  rintro e x13 ⟨ay, my, cpy, rfl, hm, ho, hb, hft⟩
  rw [List.nil_append, HFL.out] at hm
  rw [List.nil_append] at ho
  subst hm
  have HOY := Lib.hid ho
  have HOX13 := Lib.hid (ownBelow HOX.out hb)
  have HB13 := Lib.hid (HB12.out.trans (hb.mono HB12.out.size))
  obtain ⟨gx, cx, hgx, _, _, _, csx, hax⟩ := ownFull HOX13.out (by omega)
  simp only [Value.slice.injEq] at hgx
  obtain ⟨rfl, _, rfl⟩ := hgx
  obtain ⟨gy, cy, hgy, _, _, _, csy, hay⟩ := ownFull HOY.out (by omega)
  simp only [Value.slice.injEq] at hgy
  obtain ⟨rfl, _, rfl⟩ := hgy
  have lgx := hax.lt
  have lgy := hay.lt
  have HGX := Lib.hid (show ∀ k, k < N + 12 → x13.cell? ⟨gx, k, none⟩ = some (il (Lx k)) from fun k hk => by
    rw [World.ownsRow.cellAt HOX13.out k (by omega), List.getElem?_map, flat_get N Lx k hk]; rfl)
  have HGY := Lib.hid (show ∀ k, k < N + 12 → x13.cell? ⟨gy, k, none⟩ = some (il (Lx k)) from fun k hk => by
    rw [World.ownsRow.cellAt HOY.out k (by omega), List.getElem?_map, flat_get N Lx k hk]; rfl)
  obtain ⟨m, hm⟩ : ∃ m, m = N + 12 := ⟨_, rfl⟩
  rw [← hm]
  rw [← hm] at HGX HGY
  have hm1 : (m : Int) ≤ 70000 := by omega
  have hm0 : (0 : Int) ≤ (m : Int) := Int.natCast_nonneg _
  clear ho hb hft cy0 cy1 ly hax hay hm csx csy
  go_wp2_with fail
  go_loopw [20] (fun i wr => CL m w x13 i wr) (fun i _ => m - (intOf i).toNat)
  case atStart => exact ⟨0, 0, rfl, Nat.zero_le _, Lib.hid (World.drewN_zero _).symm⟩
  case round =>
    obtain ⟨k, q, rfl, hk, HW⟩ := hrel
    obtain rfl := HW.out
    by_cases hlt : k < m
    · have c0 : (x13.drewN q).cell? ⟨gx, k, none⟩ = some (il (Lx k)) := HGX.out k hlt
      have c1 : (x13.drewN q).cell? ⟨gy, k, none⟩ = some (il (Lx k)) := HGY.out k hlt
      have l0 := World.block_lt_of_cell? _ _ c0
      have l1 := World.block_lt_of_cell? _ _ c1
      obtain ⟨W, hW⟩ : ∃ W, W = x13.drewN q := ⟨_, rfl⟩
      obtain ⟨z, hz⟩ : ∃ z, z = Lx k := ⟨_, rfl⟩
      rw [← hW, ← hz] at c0 c1
      rw [← hW] at l0 l1
      rw [← hW]
      have HWW := Lib.hid hW
      have hki : (k : Int) < (m : Int) := by omega
      have hk0 : (0 : Int) ≤ (k : Int) := Int.natCast_nonneg _
      clear hW hz
      go_wp2_with fail
      go_quiet (fail)
      go_wp2_with fail
      go_roundw
      case rel => exact ⟨k + 1, q + nq, by go_num, by omega, Lib.hid (by rw [HWW.out, World.drewN_drewN])⟩
      case measure => simp [intOf]; omega
    · obtain rfl : m = k := by omega
      go_wp2_with fail
      go_ret
      exact ⟨rfl, below_drewN HB13.out _⟩

theorem walk (a0 a1 a2 : ByteArray) (a3 a4 : Int) (a5 : Option Addr) (len5 cap5 : Nat) (z5 : List Int) (w : World) (w0 : a0.size ≤ maxLen) (w1 : a1.size ≤ maxLen) (w2 : a2.size ≤ maxLen) (w3 : (Lit.int .u16 a3).wf = true) (w4 : (Lit.int .u16 a4).wf = true) (w5 : IsRow .i32 w a5 len5 cap5 z5) (hL : laidMetH Tryd.prog [("unicode/utf8.acceptRanges", Rows.laid_unicode_utf8_acceptRanges), ("unicode/utf8.first", Rows.laid_unicode_utf8_first)] w) :
    Calls Tryd.prog 6 #[.string a0, .string a1, .string a2, .int .u16 a3, .int .u16 a4, .slice a5 len5 cap5] w fun e w' => e = .returned (.bool true) ∧ Below w.heap.size w w' := by
  by_cases h : a0.size ≤ 65536 ∧ a1.size ≤ 65536 ∧ a2.size ≤ 65536 ∧ len5 ≤ 65536
  · obtain ⟨p1, rfl, h1⟩ := wf_u16' w3
    obtain ⟨p2, rfl, h2⟩ := wf_u16' w4
    exact wOK a0 a1 a2 p1 p2 a5 len5 cap5 z5 w h1 h2 w5 (tabs hL) h.1 h.2.1 h.2.2.1 h.2.2.2
  · exact wBad a0 a1 a2 a3 a4 a5 len5 cap5 z5 w w0 w1 w2 w3 w4 w5 h
end fnRemapLocsInJSONComposesAsOneShift
end Go.Proofs.YtjlmaingeobgeaaDoor
