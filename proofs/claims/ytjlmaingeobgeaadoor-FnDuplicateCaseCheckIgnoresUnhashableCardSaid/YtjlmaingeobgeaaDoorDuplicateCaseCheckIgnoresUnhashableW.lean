/- Proved here: the walk of FnDuplicateCaseCheckIgnoresUnhashable: it returns true. Conditions: the arguments lie as stated. -/
import Derived.Test.YtjlmaingeobgeaaDoorDLC
import Derived.WalkKit
import Derived.WalkSpells
import Derived.WalkLawsBesides
import Derived.Lib.Hide
import Derived.Lib.SliceRun
import Derived.Deep.RegionWith
import Derived.OwnWalk
import Derived.Laws.OwnMore
import Derived.Deep.QuietTactic
import Derived.BigQuiet
import Derived.Deep.LoopGhost
import Derived.Deep.Cut
import Derived.Deep.CutRange
namespace Go.Proofs.YtjlmaingeobgeaaDoor.fnDuplicateCaseCheckIgnoresUnhashable
open Go.RowKit
set_option linter.unusedSimpArgs false
set_option linter.unusedVariables false

def Q1 (n : Nat) (L : Nat → Nat) (w : World) (i : Value) (wr : World) : Prop := ∃ k : Nat, k ≤ n ∧ i = .int .i64 k ∧ w = wr ∧ Hid (∀ j, j < k → L j ≤ 524288)
def Q2 (n : Nat) (w : World) (t i : Value) (wr : World) : Prop := ∃ k s : Nat, k ≤ n ∧ i = .int .i64 k ∧ t = .int .i64 s ∧ s ≤ 65536 + 1048600 * k ∧ w = wr
def Q3 (lo D1 D2 n : Nat) (A : Nat → Option Addr) (L C : Nat → Nat) (Z : Nat → List Int) (w5 : World) (g : Nat) (i : Value) (wr : World) : Prop :=
  ∃ (k : Nat) (v1 : Value) (its1 : List (Nat × Nat)) (v2 : Value) (its2 : List (Nat × Nat)), g + k = n + 1 ∧ i = .int .i64 k ∧ lo ≤ wr.heap.size ∧ Hid (TW lo D1 D2 n A L C Z w5 (min k n) (min k n) v1 its1 v2 its2 wr)
def CJ (lo D1 D2 n : Nat) (A : Nat → Option Addr) (L C : Nat → Nat) (Z : Nat → List Int) (w5 : World) (k : Nat) (v1 : Value) (its1 : List (Nat × Nat)) (v2 : Value) (its2 : List (Nat × Nat)) (wx : World) : Prop := lo ≤ wx.heap.size ∧ Hid (TW lo D1 D2 n A L C Z w5 (min k n) (min k n) v1 its1 v2 its2 wx)
def Q4 (n : Nat) (W : World) (g : Nat) (i : Value) (wr : World) : Prop := ∃ m : Nat, g + m = n ∧ m ≤ n ∧ i = .int .i64 m ∧ Hid (Below W.heap.size W wr)
set_option maxRecDepth 100000 in
theorem early (a0 : Option Addr) (len0 cap0 : Nat) (A0 : Nat → Option Addr) (L0 C0 : Nat → Nat) (Z0 : Nat → List Int) (a1 : Option Addr) (len1 cap1 : Nat) (z1 : List Int) (w : World) (h0 : RowV w a0 len0 (fun i => .slice (A0 i) (L0 i) (C0 i))) (hL : ∀ i, i < len0 → L0 i ≤ maxLen) (hn : len0 ≤ maxLen) (hn1 : len1 ≤ maxLen) (h : 1024 < len0 ∨ 65536 < len1) :
    Calls Tryd.prog 4 #[.slice a0 len0 cap0, .slice a1 len1 cap1] w fun e w' => e = .returned (.bool true) ∧ Below w.heap.size w w' := by
  have HB := Lib.hid (bytes18 a0 a1 len0 cap0 len1 cap1 A0 L0 C0 w h0 hL hn hn1)
  unfold maxLen at hn hn1
  clear h0 hL
  by_cases c : 1024 < len0
  · clear h
    go_enter Tryd.func4, Tryd.ntmps4
    go_wp2_with fail
    refine HB.out.mono ?_
    rintro e w' ⟨⟨b, rfl⟩, rfl⟩
    cases b
    · go_wp2_with fail
      go_ret
      exact ⟨rfl, Below.refl _ _⟩
    · go_wp2_with fail
      go_ret
      exact ⟨rfl, Below.refl _ _⟩
  · have c1 : 65536 < len1 := by omega
    clear h
    go_enter Tryd.func4, Tryd.ntmps4
    go_wp2_with fail
    refine HB.out.mono ?_
    rintro e w' ⟨⟨b, rfl⟩, rfl⟩
    cases b
    · go_wp2_with fail
      go_ret
      exact ⟨rfl, Below.refl _ _⟩
    · go_wp2_with fail
      go_ret
      exact ⟨rfl, Below.refl _ _⟩
set_option maxRecDepth 100000 in
set_option maxHeartbeats 16000000 in
theorem walk (a0 : Option Addr) (len0 cap0 : Nat) (A0 : Nat → Option Addr) (L0 C0 : Nat → Nat) (Z0 : Nat → List Int) (a1 : Option Addr) (len1 cap1 : Nat) (z1 : List Int) (w : World) (w0 : IsRows .u16 w a0 len0 cap0 A0 L0 C0 Z0) (w1 : IsRow .u8 w a1 len1 cap1 z1) :
    Calls Tryd.prog 4 #[.slice a0 len0 cap0, .slice a1 len1 cap1] w fun e w' => e = .returned (.bool true) ∧ Below w.heap.size w w' := by
  have hn := rowsLen w0
  have hn1 := (len_ints w1).1
  have hLm : ∀ i, i < len0 → L0 i ≤ maxLen := fun i hi => (len_ints (rows_row w0 hi)).1
  by_cases hbig : 1024 < len0 ∨ 65536 < len1
  · exact early a0 len0 cap0 A0 L0 C0 Z0 a1 len1 cap1 z1 w (rows_cells w0) hLm hn hn1 hbig
  have b0 : len0 ≤ 1024 := by omega
  have b1 : len1 ≤ 65536 := by omega
  have HB := Lib.hid (bytes18 a0 a1 len0 cap0 len1 cap1 A0 L0 C0 w (rows_cells w0) hLm hn hn1)
  have HI := Lib.hid w0
  have HJ := Lib.hid w1
  have HR := Lib.hid (rows_cells w0)
  have HZ := Lib.hid (show ∀ i, i < len0 → ∀ t, 0 ≤ uAt (Z0 i) t ∧ uAt (Z0 i) t ≤ 65535 from fun i hi => u16_range (rows_row w0 hi))
  have HLM := Lib.hid hLm
  have HZ1 := Lib.hid (show ∀ i, 0 ≤ z1.getD i 0 ∧ z1.getD i 0 ≤ 255 from fun i => by
    rcases (len_ints w1).2.2 i with h | h
    · exact wf_u8 h
    · simp [List.getD, List.getElem?_eq_none h])
  clear hn hn1 hLm hbig w0 w1
  go_enter Tryd.func4, Tryd.ntmps4
  go_wp2_with fail
  refine HB.out.mono ?_
  rintro e w' ⟨⟨b, rfl⟩, rfl⟩
  clear HB
  cases b
  · go_wp2_with fail
    go_ret
    exact ⟨rfl, Below.refl _ _⟩
  go_wp2_with fail
  go_loopw [5] (fun i wr => Q1 len0 L0 w i wr) (fun i _ => len0 - (intOf i).toNat)
  case atStart => exact ⟨0, by omega, rfl, rfl, Lib.hid (fun j hj => absurd hj (by omega))⟩
  case round =>
    obtain ⟨k, hk, rfl, rfl, HL⟩ := hrel
    by_cases hlt : k < len0
    · obtain ⟨B, off, rfl, hc⟩ := HR.out (by omega)
      have c0 := hc k hlt
      have lB := World.block_lt_of_cell? _ _ c0
      obtain ⟨x0, e0⟩ : ∃ x, x = A0 k := ⟨_, rfl⟩
      obtain ⟨x1, e1⟩ : ∃ x, x = L0 k := ⟨_, rfl⟩
      obtain ⟨x2, e2⟩ : ∃ x, x = C0 k := ⟨_, rfl⟩
      simp only [← e0, ← e1, ← e2] at c0
      have HE1 := Lib.hid e1
      clear hc e0 e1 e2
      by_cases hx : 524288 < x1
      · go_wp2_with fail
        go_ret
        exact ⟨rfl, Below.refl _ _⟩
      · have N1 := Lib.hid (show ∀ j, j < k + 1 → L0 j ≤ 524288 from fun j hj => by
          by_cases e : j = k
          · subst e; rw [← HE1.out]; omega
          · exact HL.out j (by omega))
        go_wp2_with fail
        go_roundw
        case rel => exact ⟨k + 1, by omega, by go_num, rfl, N1⟩
        case measure => simp [intOf]; omega
    · have e : k = len0 := by omega
      subst e
      go_wp2_with fail
      go_loopw [6, 7] (fun t i wr => Q2 k w t i wr) (fun _ i _ => k - (intOf i).toNat)
      case atStart => exact ⟨0, len1, by omega, rfl, rfl, by omega, rfl⟩
      case round =>
        obtain ⟨j, s, hj, rfl, rfl, hs, rfl⟩ := hrel
        by_cases hlt2 : j < k
        · obtain ⟨B, off, rfl, hc⟩ := HR.out (by omega)
          have c0 := hc j hlt2
          have lB := World.block_lt_of_cell? _ _ c0
          have hl := HL.out j hlt2
          obtain ⟨x0, e0⟩ : ∃ x, x = A0 j := ⟨_, rfl⟩
          obtain ⟨x1, e1⟩ : ∃ x, x = L0 j := ⟨_, rfl⟩
          obtain ⟨x2, e2⟩ : ∃ x, x = C0 j := ⟨_, rfl⟩
          simp only [← e0, ← e1, ← e2] at c0
          rw [← e1] at hl
          clear hc e0 e1 e2
          have q1 := w64 (2 * (x1 : Int)) (by omega)
          have q2 := w64 ((s : Int) + 24) (by omega)
          have q3 := w64 ((s : Int) + 24 + 2 * (x1 : Int)) (by omega)
          go_wp2_with fail
          go_roundw
          case rel => exact ⟨j + 1, s + 24 + 2 * x1, by omega, by go_num, by go_num, by omega, rfl⟩
          case measure => simp [intOf]; omega
        · have e : j = k := by omega
          subst e
          by_cases hs2 : 1048576 < s
          · go_wp2_with fail
            go_ret
            exact ⟨rfl, Below.refl _ _⟩
          · clear hs
            go_wp2_with fail
            refine (dist19 a0 j cap0 A0 L0 C0 Z0 w (rowsV HI.out) (by omega) (fun i hi => by have := HL.out i hi; omega)).mono ?_
            rintro e w1 ⟨⟨b, rfl, hb⟩, q, rfl⟩
            have HD := Lib.hid hb
            clear hb
            cases b
            · go_wp2_with fail
              go_ret
              exact ⟨rfl, below_drewN (Below.refl _ _) _⟩
            obtain ⟨W1, hW1⟩ : ∃ W, W = w.drewN q := ⟨_, rfl⟩
            have HI1 := Lib.hid (show IsRows .u16 W1 a0 j cap0 A0 L0 C0 Z0 from by rw [hW1]; exact HI.out)
            have HJ1 := Lib.hid (show IsRow .u8 W1 a1 len1 cap1 z1 from by rw [hW1]; exact HJ.out)
            have HB1 := Lib.hid (show Below w.heap.size w W1 from by rw [hW1]; exact below_drewN (Below.refl _ _) _)
            rw [← hW1]
            clear hW1 HI HJ HR
            go_wp2_with fail
            refine (show Calls Tryd.prog 20 #[.slice a0 j cap0] W1 (Cl20 j L0 Z0 W1) from by
              have hL' : ∀ i, i < j → L0 i ≤ 1048576 := fun i hi => by have := HL.out i hi; omega
              rcases id HI1.out with ⟨e1, e2, e3⟩ | ⟨x, e1, _⟩
              · subst e1 e2 e3
                exact cl20_nil L0 Z0 W1
              · subst e1
                exact cl20_some x j cap0 A0 L0 C0 Z0 W1 HI1.out (by omega) hL').mono ?_
            rintro e w2 ⟨p0, q0, A, C, rfl, hrows, hb2⟩
            have HRS := Lib.hid hrows
            have HJ2 := Lib.hid (IsRow.below HJ1.out hb2)
            have HB2 := Lib.hid (bel2 HB1.out hb2)
            clear hrows hb2 HB1 HI1 HJ1
            go_wp2_with fail
            refine (cpJ_any a1 len1 cap1 z1 w2 HJ2.out (by omega)).mono ?_
            rintro e w3 ⟨p1, q1, rfl, rj, hb3⟩
            have HRJ := Lib.hid (show RowV w3 p1 len1 (fun i => .int .u8 (z1.getD i 0)) from rj)
            have HRS3 := Lib.hid (HRS.out.below hb3)
            have HB3 := Lib.hid (bel2 HB2.out hb3)
            clear rj hb3 HB2 HRS HJ2
            go_wp2_with fail
            refine (newCk (fun i => hS (Z0 i) (L0 i)) 223 w3.heap.size w3 (Nat.le_refl _)).mono ?_
            rintro e w4 ⟨rfl, hck1, hb4, hlt4⟩
            obtain ⟨lo, hlo⟩ : ∃ lo, lo = w3.heap.size := ⟨_, rfl⟩
            rw [← hlo] at hck1 hlt4 ⊢
            have HLO := Lib.hid hlo
            have HC1 := Lib.hid hck1
            have HB4 := Lib.hid (show Below lo w3 w4 from by rw [hlo]; exact hb4)
            clear hck1 hb4 hlo
            go_wp2_with fail
            refine (newCk (fun i => hS (Z0 i) (L0 i)) 223 lo w4 (Nat.le_of_lt hlt4)).mono ?_
            rintro e w5 ⟨rfl, hck2, hb5, hlt5⟩
            obtain ⟨D2, hD2⟩ : ∃ D, D = w4.heap.size := ⟨_, rfl⟩
            rw [← hD2] at hck2 hlt5 ⊢
            have hd : lo < D2 := by omega
            have HC1b := Lib.hid (HC1.out.below hb5)
            have HC2 := Lib.hid hck2
            have HB5 := Lib.hid (show Below lo w3 w5 from HB4.out.trans (hb5.mono (by omega)))
            clear hck2 hb5 hD2 HC1 HB4 hlt4
            go_wp2_with fail
            refine (newPr w5).mono ?_
            rintro e w6 ⟨rfl, hb6⟩
            obtain ⟨P, hP⟩ : ∃ P, P = w5.heap.size := ⟨_, rfl⟩
            rw [← hP]
            have TW0 := Lib.hid (show TW lo lo D2 j A L0 C Z0 w3 0 0 (.slice none 0 0) [] (.slice none 0 0) [] w6 from
              ⟨HC1b.out.below hb6, HC2.out.below hb6, rfl, rfl, (fun x hx => by cases hx), (fun x hx => by cases hx), by omega, by simp [Value.ownBlock], by simp [Value.ownBlock], (fun g hg => by simp [Value.ownBlock] at hg), HB5.out.trans (hb6.mono (by omega))⟩)
            have hz6 : lo ≤ w6.heap.size := by have := hb6.size; omega
            clear hb6 hP HC1b HC2 HB5 hlt5
            go_wp2_with fail
            go_loopg [11] (j + 1) (fun g i wr => Q3 lo lo D2 j A L0 C Z0 w3 g i wr)
            case atStart => exact ⟨0, _, _, _, _, by omega, rfl, hz6, Lib.hid (by rw [show min 0 j = 0 from Nat.zero_min _]; exact TW0.out)⟩
            case round =>
              obtain ⟨k, v1, its1, v2, its2, hgk, rfl, hlow, HTW⟩ := hrel
              clear TW0 hz6
              by_cases hle : k ≤ j
              · have hle2 : decide ((k : Int) ≤ (j : Int)) = true := by simpa using hle
                have HRW := Lib.hid (show ∀ (W : World), Below lo w3 W → RowsV W p0 j A L0 C Z0 from fun W hW => HRS3.out.below (by have := hW; rw [HLO.out] at this; exact this))
                have HDD := Lib.hid (HD.out (by trivial))
                by_cases hk1 : k < len1
                · obtain ⟨BJ, offJ, rfl, hcj⟩ := (HRJ.out.below (show Below w3.heap.size w3 wr from by have := HTW.out.b; rw [HLO.out] at this; exact this)) (by omega)
                  have cj := hcj k hk1
                  have lBJ := World.block_lt_of_cell? _ _ cj
                  have hx0 := HZ1.out k
                  obtain ⟨x, hx⟩ : ∃ x, x = z1.getD k 0 := ⟨_, rfl⟩
                  simp only [← hx] at cj
                  rw [← hx] at hx0
                  obtain ⟨hxa, hxb⟩ := hx0
                  clear hcj hx
                  by_cases hxz : x = 0
                  · have e1 : (x != 0) = false := by simp [hxz]
                    have e2 : (x == 0) = true := by simp [hxz]
                    clear hxz
                    by_cases hkj : k < j
                    · rw [show min k j = k from Nat.min_eq_left (by omega)] at HTW
                      obtain ⟨BS, offS, rfl, hcs⟩ := (HRW.out wr HTW.out.b).1 (by omega)
                      have cs := hcs k hkj
                      have lBS := World.block_lt_of_cell? _ _ cs
                      have HCSS := Lib.hid (fun (W : World) (hW : Below lo w3 W) => by
                        obtain ⟨B', off', e, hc⟩ := (HRW.out W hW).1 (show 0 < j by omega)
                        cases e
                        exact hc k hkj)
                      obtain ⟨x0, e0⟩ : ∃ x, x = A k := ⟨_, rfl⟩
                      obtain ⟨x1, e1'⟩ : ∃ x, x = L0 k := ⟨_, rfl⟩
                      obtain ⟨x2, e2'⟩ : ∃ x, x = C k := ⟨_, rfl⟩
                      simp only [← e0, ← e1', ← e2'] at cs
                      have EE := Lib.hid (And.intro e0 (And.intro e1' e2'))
                      clear hcs e0 e1' e2'
                      go_wp2_with fail
                      refine (mkS x0 x1 x2 wr).mono ?_
                      rintro e wb ⟨qs, rfl, hsat, hge, hbc⟩
                      have HTWb := Lib.hid (HTW.out.below hlow hbc)
                      have hlowb : lo ≤ wb.heap.size := Nat.le_trans hlow hbc.size
                      have CHK := Lib.hid (HTWb.out.check (P := P) (q := qs) (by rw [← EE.out.1, ← EE.out.2.1, ← EE.out.2.2]; exact hsat) hlowb HLO.out hkj b0 HL.out HZ.out HDD.out HRS3.out.2)
                      clear hsat hge hbc HTW hlow cs lBS
                      go_wp2_with fail
                      refine CHK.out.mono ?_
                      rintro e wd ⟨v1', rfl, htw⟩
                      have HTWd := Lib.hid htw
                      have hlowd : lo ≤ wd.heap.size := by have := htw.c1.low; have := htw.c1.lt; omega
                      have cs2 := HCSS.out wd htw.b
                      have lBS2 := World.block_lt_of_cell? _ _ cs2
                      simp only [← EE.out.1, ← EE.out.2.1, ← EE.out.2.2] at cs2
                      clear htw HTWb CHK hlowb
                      go_wp2_with fail
                      refine (mkS x0 x1 x2 wd).mono ?_
                      rintro e we ⟨qs2, rfl, hsat2, hge2, hbe⟩
                      have HTWe := Lib.hid (HTWd.out.below hlowd hbe)
                      have hlowe : lo ≤ we.heap.size := Nat.le_trans hlowd hbe.size
                      have CHK2 := Lib.hid (HTWe.out.swap.check (P := P) (q := qs2) (by rw [← EE.out.1, ← EE.out.2.1, ← EE.out.2.2]; exact hsat2) hlowe HLO.out hkj b0 HL.out HZ.out HDD.out HRS3.out.2)
                      clear hsat2 hge2 hbe HTWd hlowd cs2 lBS2
                      go_wp2_with fail
                      refine CHK2.out.mono ?_
                      rintro e wf ⟨v2', rfl, htw2⟩
                      have HTWf := Lib.hid htw2.swap
                      have hlowf : lo ≤ wf.heap.size := by have := htw2.c2.low; have := htw2.c2.lt; omega
                      clear htw2 HTWe CHK2 hlowe
                      go_wp2_with fail
                      go_roundg (gk - 1)
                      case measure => omega
                      case rel => exact ⟨k + 1, _, _, _, _, by omega, by go_num, hlowf, Lib.hid (by rw [show min (k + 1) j = k + 1 from Nat.min_eq_left (by omega)]; exact HTWf.out)⟩
                    · have ekj : k = j := by omega
                      subst ekj
                      clear hkj
                      go_wp2_with fail
                      go_roundg (gk - 1)
                      case measure => omega
                      case rel => exact ⟨k + 1, _, _, _, _, by omega, by go_num, hlow, Lib.hid (by rw [show min (k + 1) k = min k k from by omega]; exact HTW.out)⟩
                  · have e1 : (x != 0) = true := by simp [hxz]
                    have e2 : (x == 0) = false := by simp [hxz]
                    clear hxz
                    go_wp2_with fail
                    refine (junk x wr hxa hxb).mono ?_
                    rintro e wa ⟨ty, pj, rfl, hnh, hba⟩
                    have HNH := Lib.hid hnh
                    have HTWa := Lib.hid (HTW.out.below hlow hba)
                    have hlowa : lo ≤ wa.heap.size := Nat.le_trans hlow hba.size
                    clear hnh hba HTW hlow cj lBJ
                    go_wp2_with fail
                    refine (zcheckJ lo P ty pj wa HNH.out).mono ?_
                    rintro e wr ⟨rfl, hbb⟩
                    have HTW := Lib.hid (HTWa.out.below hlowa hbb)
                    have hlow : lo ≤ wr.heap.size := Nat.le_trans hlowa hbb.size
                    clear hbb HTWa HNH hlowa
                    by_cases hkj : k < j
                    · rw [show min k j = k from Nat.min_eq_left (by omega)] at HTW
                      obtain ⟨BS, offS, rfl, hcs⟩ := (HRW.out wr HTW.out.b).1 (by omega)
                      have cs := hcs k hkj
                      have lBS := World.block_lt_of_cell? _ _ cs
                      have HCSS := Lib.hid (fun (W : World) (hW : Below lo w3 W) => by
                        obtain ⟨B', off', e, hc⟩ := (HRW.out W hW).1 (show 0 < j by omega)
                        cases e
                        exact hc k hkj)
                      obtain ⟨x0, e0⟩ : ∃ x, x = A k := ⟨_, rfl⟩
                      obtain ⟨x1, e1'⟩ : ∃ x, x = L0 k := ⟨_, rfl⟩
                      obtain ⟨x2, e2'⟩ : ∃ x, x = C k := ⟨_, rfl⟩
                      simp only [← e0, ← e1', ← e2'] at cs
                      have EE := Lib.hid (And.intro e0 (And.intro e1' e2'))
                      clear hcs e0 e1' e2'
                      go_wp2_with fail
                      refine (mkS x0 x1 x2 wr).mono ?_
                      rintro e wb ⟨qs, rfl, hsat, hge, hbc⟩
                      have HTWb := Lib.hid (HTW.out.below hlow hbc)
                      have hlowb : lo ≤ wb.heap.size := Nat.le_trans hlow hbc.size
                      have CHK := Lib.hid (HTWb.out.check (P := P) (q := qs) (by rw [← EE.out.1, ← EE.out.2.1, ← EE.out.2.2]; exact hsat) hlowb HLO.out hkj b0 HL.out HZ.out HDD.out HRS3.out.2)
                      clear hsat hge hbc HTW hlow cs lBS
                      go_wp2_with fail
                      refine CHK.out.mono ?_
                      rintro e wd ⟨v1', rfl, htw⟩
                      have HTWd := Lib.hid htw
                      have hlowd : lo ≤ wd.heap.size := by have := htw.c1.low; have := htw.c1.lt; omega
                      have cs2 := HCSS.out wd htw.b
                      have lBS2 := World.block_lt_of_cell? _ _ cs2
                      simp only [← EE.out.1, ← EE.out.2.1, ← EE.out.2.2] at cs2
                      clear htw HTWb CHK hlowb
                      go_wp2_with fail
                      refine (mkS x0 x1 x2 wd).mono ?_
                      rintro e we ⟨qs2, rfl, hsat2, hge2, hbe⟩
                      have HTWe := Lib.hid (HTWd.out.below hlowd hbe)
                      have hlowe : lo ≤ we.heap.size := Nat.le_trans hlowd hbe.size
                      have CHK2 := Lib.hid (HTWe.out.swap.check (P := P) (q := qs2) (by rw [← EE.out.1, ← EE.out.2.1, ← EE.out.2.2]; exact hsat2) hlowe HLO.out hkj b0 HL.out HZ.out HDD.out HRS3.out.2)
                      clear hsat2 hge2 hbe HTWd hlowd cs2 lBS2
                      go_wp2_with fail
                      refine CHK2.out.mono ?_
                      rintro e wf ⟨v2', rfl, htw2⟩
                      have HTWf := Lib.hid htw2.swap
                      have hlowf : lo ≤ wf.heap.size := by have := htw2.c2.low; have := htw2.c2.lt; omega
                      clear htw2 HTWe CHK2 hlowe
                      go_wp2_with fail
                      go_roundg (gk - 1)
                      case measure => omega
                      case rel => exact ⟨k + 1, _, _, _, _, by omega, by go_num, hlowf, Lib.hid (by rw [show min (k + 1) j = k + 1 from Nat.min_eq_left (by omega)]; exact HTWf.out)⟩
                    · have ekj : k = j := by omega
                      subst ekj
                      clear hkj
                      go_wp2_with fail
                      go_roundg (gk - 1)
                      case measure => omega
                      case rel => exact ⟨k + 1, _, _, _, _, by omega, by go_num, hlow, Lib.hid (by rw [show min (k + 1) k = min k k from by omega]; exact HTW.out)⟩
                · have hk2 : ¬ (k : Int) < (len1 : Int) := by omega
                  by_cases hkj : k < j
                  · rw [show min k j = k from Nat.min_eq_left (by omega)] at HTW
                    obtain ⟨BS, offS, rfl, hcs⟩ := (HRW.out wr HTW.out.b).1 (by omega)
                    have cs := hcs k hkj
                    have lBS := World.block_lt_of_cell? _ _ cs
                    have HCSS := Lib.hid (fun (W : World) (hW : Below lo w3 W) => by
                      obtain ⟨B', off', e, hc⟩ := (HRW.out W hW).1 (show 0 < j by omega)
                      cases e
                      exact hc k hkj)
                    obtain ⟨x0, e0⟩ : ∃ x, x = A k := ⟨_, rfl⟩
                    obtain ⟨x1, e1'⟩ : ∃ x, x = L0 k := ⟨_, rfl⟩
                    obtain ⟨x2, e2'⟩ : ∃ x, x = C k := ⟨_, rfl⟩
                    simp only [← e0, ← e1', ← e2'] at cs
                    have EE := Lib.hid (And.intro e0 (And.intro e1' e2'))
                    clear hcs e0 e1' e2'
                    go_wp2_with fail
                    refine (mkS x0 x1 x2 wr).mono ?_
                    rintro e wb ⟨qs, rfl, hsat, hge, hbc⟩
                    have HTWb := Lib.hid (HTW.out.below hlow hbc)
                    have hlowb : lo ≤ wb.heap.size := Nat.le_trans hlow hbc.size
                    have CHK := Lib.hid (HTWb.out.check (P := P) (q := qs) (by rw [← EE.out.1, ← EE.out.2.1, ← EE.out.2.2]; exact hsat) hlowb HLO.out hkj b0 HL.out HZ.out HDD.out HRS3.out.2)
                    clear hsat hge hbc HTW hlow cs lBS
                    go_wp2_with fail
                    refine CHK.out.mono ?_
                    rintro e wd ⟨v1', rfl, htw⟩
                    have HTWd := Lib.hid htw
                    have hlowd : lo ≤ wd.heap.size := by have := htw.c1.low; have := htw.c1.lt; omega
                    have cs2 := HCSS.out wd htw.b
                    have lBS2 := World.block_lt_of_cell? _ _ cs2
                    simp only [← EE.out.1, ← EE.out.2.1, ← EE.out.2.2] at cs2
                    clear htw HTWb CHK hlowb
                    go_wp2_with fail
                    refine (mkS x0 x1 x2 wd).mono ?_
                    rintro e we ⟨qs2, rfl, hsat2, hge2, hbe⟩
                    have HTWe := Lib.hid (HTWd.out.below hlowd hbe)
                    have hlowe : lo ≤ we.heap.size := Nat.le_trans hlowd hbe.size
                    have CHK2 := Lib.hid (HTWe.out.swap.check (P := P) (q := qs2) (by rw [← EE.out.1, ← EE.out.2.1, ← EE.out.2.2]; exact hsat2) hlowe HLO.out hkj b0 HL.out HZ.out HDD.out HRS3.out.2)
                    clear hsat2 hge2 hbe HTWd hlowd cs2 lBS2
                    go_wp2_with fail
                    refine CHK2.out.mono ?_
                    rintro e wf ⟨v2', rfl, htw2⟩
                    have HTWf := Lib.hid htw2.swap
                    have hlowf : lo ≤ wf.heap.size := by have := htw2.c2.low; have := htw2.c2.lt; omega
                    clear htw2 HTWe CHK2 hlowe
                    go_wp2_with fail
                    go_roundg (gk - 1)
                    case measure => omega
                    case rel => exact ⟨k + 1, _, _, _, _, by omega, by go_num, hlowf, Lib.hid (by rw [show min (k + 1) j = k + 1 from Nat.min_eq_left (by omega)]; exact HTWf.out)⟩
                  · have ekj : k = j := by omega
                    subst ekj
                    clear hkj
                    go_wp2_with fail
                    go_roundg (gk - 1)
                    case measure => omega
                    case rel => exact ⟨k + 1, _, _, _, _, by omega, by go_num, hlow, Lib.hid (by rw [show min (k + 1) k = min k k from by omega]; exact HTW.out)⟩
              · have ek : k = j + 1 := by omega
                subst ek
                rw [show min (j + 1) j = j from Nat.min_eq_right (by omega)] at HTW
                obtain ⟨x1, y1, e1, d1, hc1⟩ := HTW.out.c1.cells
                obtain ⟨x2, y2, e2, d2, hc2⟩ := HTW.out.c2.cells
                have hl1 : its1.length = (nb (fun i => hS (Z0 i) (L0 i)) j).length := by
                  have := congrArg List.length HTW.out.n1
                  simpa using this
                have hl2 : its2.length = (nb (fun i => hS (Z0 i) (L0 i)) j).length := by
                  have := congrArg List.length HTW.out.n2
                  simpa using this
                obtain ⟨m, hm⟩ : ∃ m, m = its1.length := ⟨_, rfl⟩
                have hm2 : its2.length = m := by omega
                have hmj : m ≤ j := by have := nb_len (fun i => hS (Z0 i) (L0 i)) j; omega
                rw [← hm] at d1
                rw [hm2] at d2
                have HM1 := Lib.hid hm
                have HM2 := Lib.hid hm2
                have HC1 := Lib.hid hc1
                have HC2 := Lib.hid hc2
                have CN1 := Lib.hid (ckCount lo x1 m y1 wr d1)
                have CN2 := Lib.hid (ckCount D2 x2 m y2 wr d2)
                have HD1 := Lib.hid d1
                have HD2 := Lib.hid d2
                have HRW := Lib.hid (show ∀ i, i < j → RowV wr (A i) (L0 i) (fun t => .int .u16 (uAt (Z0 i) t)) from fun i hi => (HRS3.out.2 i hi).below (by have := HTW.out.b; rw [HLO.out] at this; exact this))
                have HBW := Lib.hid (show Below w.heap.size w wr from HB3.out.trans ((show Below w3.heap.size w3 wr from by have := HTW.out.b; rw [HLO.out] at this; exact this).mono HB3.out.size))
                clear e1 e2 hc1 hc2 hl1 hl2 hm hm2 d1 d2 hle
                have hle3 : decide (((j + 1 : Nat) : Int) ≤ (j : Int)) = false := by simp; omega
                have hle4 : ¬ ((j : Int) + 1 ≤ (j : Int)) := by omega
                go_wp2_with fail
                clear hle3 hle4
                refine CN1.out.mono ?_
                rintro e w' ⟨rfl, rfl⟩
                go_wp2_with fail
                refine CN2.out.mono ?_
                rintro e w' ⟨rfl, rfl⟩
                have e9 : ((m : Int) != (m : Int)) = false := by simp
                have e10 : decide (j < m) = false := by simp; omega
                go_wp2_with fail
                clear e9 e10 CN1 CN2
                obtain ⟨W, hW⟩ : ∃ W, W = wr := ⟨_, rfl⟩
                rw [← hW] at HTW HC1 HC2 HD1 HD2 HRW HBW ⊢
                clear hW
                go_loopg [13] m (fun g i wr => Q4 m W g i wr)
                case atStart => exact ⟨0, by omega, by omega, rfl, Lib.hid (Below.refl _ _)⟩
                case round =>
                  obtain ⟨t, hgt, ht, rfl, HBr⟩ := hrel
                  by_cases hlt4 : t < m
                  · obtain ⟨x, hx⟩ : ∃ y, its1[t]? = some y := ⟨_, List.getElem?_eq_getElem (by rw [← HM1.out]; exact hlt4)⟩
                    obtain ⟨y, hy⟩ : ∃ y, its2[t]? = some y := ⟨_, List.getElem?_eq_getElem (by rw [HM2.out]; exact hlt4)⟩
                    have hxy : x.1 = y.1 := by
                      have h1 := HTW.out.n1
                      rw [← HTW.out.n2] at h1
                      have h2 := congrArg (fun l => l[t]?) h1
                      simpa [hx, hy] using h2
                    obtain ⟨g1, rfl, hg1⟩ := HC1.out t x hx
                    obtain ⟨g2, rfl, hg2⟩ := HC2.out t y hy
                    have a1 := HTW.out.a1 x (List.mem_of_getElem? hx)
                    have a2 := HTW.out.a2 y (List.mem_of_getElem? hy)
                    have KH1 := Lib.hid (fun (V : World) (hV : Below W.heap.size W V) => ckHash lo (some ⟨g1, 0, none⟩) m y1 g1 V t (hS (Z0 x.1) (L0 x.1)) rfl (kept hV HD1.out) hlt4 (by omega) (kept hV (hg1 2 (by omega))))
                    have KH2 := Lib.hid (fun (V : World) (hV : Below W.heap.size W V) => ckHash D2 (some ⟨g2, 0, none⟩) m y2 g2 V t (hS (Z0 x.1) (L0 x.1)) rfl (kept hV HD2.out) hlt4 (by omega) (kept hV (by have := hg2 2 (by omega); rw [hxy]; exact this)))
                    have KV1 := Lib.hid (fun (V : World) (hV : Below W.heap.size W V) => ckVal lo 223 x.2 (some ⟨g1, 0, none⟩) m y1 g1 V t rfl (kept hV HD1.out) hlt4 (by omega) (kept hV (hg1 0 (by omega))) (kept hV (hg1 1 (by omega))))
                    have KV2 := Lib.hid (fun (V : World) (hV : Below W.heap.size W V) => ckVal D2 223 y.2 (some ⟨g2, 0, none⟩) m y2 g2 V t rfl (kept hV HD2.out) hlt4 (by omega) (kept hV (hg2 0 (by omega))) (kept hV (hg2 1 (by omega))))
                    have KE := Lib.hid (fun (V : World) (hV : Below W.heap.size W V) => zdce .nilIface .nilIface 0 true false V 223 223 x.2 y.2 (fun V' hV' => by
                      have s1 := (a1.2.below hV a1.2.lt).below hV' (a1.2.below hV a1.2.lt).lt
                      have s2 := (a2.2.below hV a2.2.lt).below hV' (a2.2.below hV a2.2.lt).lt
                      rw [← hxy] at s2
                      have h := eqS x.2 y.2 (A x.1) (A x.1) (L0 x.1) (L0 x.1) (C x.1) (C x.1) (Z0 x.1) (Z0 x.1) V' s1 s2 (((HRW.out x.1 a1.1).below hV).below hV') (((HRW.out x.1 a1.1).below hV).below hV') (by have := HL.out x.1 a1.1; omega) (by have := HL.out x.1 a1.1; omega)
                      rw [ueq_self] at h
                      exact h))
                    obtain ⟨h, hh⟩ : ∃ h, h = hS (Z0 x.1) (L0 x.1) := ⟨_, rfl⟩
                    rw [← hh] at KH1 KH2
                    obtain ⟨p1', hp1⟩ : ∃ p, p = x.2 := ⟨_, rfl⟩
                    obtain ⟨p2', hp2⟩ : ∃ p, p = y.2 := ⟨_, rfl⟩
                    rw [← hp1] at KV1 KE
                    rw [← hp2] at KV2 KE
                    clear hh hp1 hp2 hx hy hxy hg1 hg2 a1 a2
                    have e8 : ((h : Int) != (h : Int)) = false := by simp
                    go_wp2_with fail
                    refine (KH1.out _ HBr.out).mono ?_
                    rintro e w' ⟨rfl, rfl⟩
                    go_wp2_with fail
                    refine (KH2.out _ HBr.out).mono ?_
                    rintro e w' ⟨rfl, rfl⟩
                    go_wp2_with fail
                    refine (KV1.out _ HBr.out).mono ?_
                    rintro e va ⟨rfl, hba⟩
                    have HBa := Lib.hid (bel2 HBr.out hba)
                    clear hba
                    go_wp2_with fail
                    refine (KV2.out _ HBa.out).mono ?_
                    rintro e vb ⟨rfl, hbb⟩
                    have HBb := Lib.hid (bel2 HBa.out hbb)
                    clear hbb
                    go_wp2_with fail
                    refine (KE.out _ HBb.out).mono ?_
                    rintro e vc ⟨rfl, hbc⟩
                    have HBc := Lib.hid (bel2 HBb.out hbc)
                    clear hbc
                    go_wp2_with fail
                    go_roundg (m - (t + 1))
                    case measure => omega
                    case rel => exact ⟨t + 1, by omega, by omega, by go_num, HBc⟩
                  · have e : t = m := by omega
                    subst e
                    go_wp2_with fail
                    go_ret
                    exact ⟨rfl, bel2 HBW.out HBr.out⟩
          
end Go.Proofs.YtjlmaingeobgeaaDoor.fnDuplicateCaseCheckIgnoresUnhashable
