/- Proved here: the walk of the law FnTryToInlineCaseBodyModel, for every input. -/
import Derived.Test.YtjnffbnipjkibaaTID
import Derived.WalkKit
import Derived.WalkSpells
import Derived.WalkLawsBesides
import Derived.Lib.Hide
import Derived.Lib.SliceRun
import Derived.Deep.RegionWith
import Derived.OwnWalk
import Derived.Laws.OwnMore
import Derived.Deep.AppendLies
import Derived.Deep.CutBlock
import Derived.Deep.DeepCutAuto
namespace Go.Proofs.Ytjnffbnipjkibaa.fnTryToInlineCaseBodyModel
open Go.RowKit
set_option linter.unusedSimpArgs false
set_option linter.unusedVariables false

set_option maxRecDepth 100000 in
theorem early (a : Option Addr) (n cap : Nat) (b : Int) (w : World) (h1 : n ≤ maxLen) (h : 65536 < n) :
    Calls Try.prog 4 #[.slice a n cap, .int .u8 b] w fun e w' => e = .returned (.bool true) ∧ Below w.heap.size w w' := by
  unfold maxLen at h1
  by_cases c : n ≤ 1048576
  · have H := Lib.hid (bytes11 a n cap b w c)
    go_enter Try.func4, Try.ntmps4
    go_wp2_with fail
    refine H.out.mono ?_
    rintro e w' ⟨rfl, rfl⟩
    go_wp2_with fail
    go_ret
    exact ⟨rfl, Below.refl _ _⟩
  · have H := Lib.hid (bytes11n a n cap b w (by omega))
    go_enter Try.func4, Try.ntmps4
    go_wp2_with fail
    refine H.out.mono ?_
    rintro e w' ⟨rfl, rfl⟩
    go_wp2_with fail
    go_ret
    exact ⟨rfl, Below.refl _ _⟩

/-- k is the first place with a break, labelled or not (n: there is none). -/
def IsM (zs : List Int) (n k : Nat) : Prop := k ≤ n ∧ (∀ q, q < k → cd zs q ≠ 11 ∧ cd zs q ≠ 12) ∧ (k < n → cd zs k = 11 ∨ cd zs k = 12)
def M1 (n : Nat) (zs : List Int) (W : World) (k i : Value) (wr : World) : Prop := ∃ j : Nat, j ≤ n ∧ k = .int .i64 n ∧ i = .int .i64 j ∧ W = wr ∧ Hid (∀ q, q < j → cd zs q ≠ 11 ∧ cd zs q ≠ 12)
theorem m_next {zs : List Int} {j : Nat} (h : ∀ q, q < j → cd zs q ≠ 11 ∧ cd zs q ≠ 12) (hc : cd zs j ≠ 11 ∧ cd zs j ≠ 12) : ∀ q, q < j + 1 → cd zs q ≠ 11 ∧ cd zs q ≠ 12 := fun q hq => by
  by_cases e : q = j
  · subst e; exact hc
  · exact h q (by omega)
def CM (n : Nat) (zs : List Int) (W : World) (s : Value) (wx : World) : Prop := ∃ k : Nat, s = .int .i64 k ∧ IsM zs n k ∧ W = wx
def C13 (km n : Nat) (zs : List Int) (W : World) (s : Value) (wx : World) : Prop := ∃ rf : Bool, s = .bool rf ∧ (rf = true ↔ km < n ∧ cd zs km = 12) ∧ W = wx
def Ref (n km : Nat) (zs : List Int) (j : Nat) : Prop := (km < n ∧ cd zs km = 12) ∨ ∃ q, q < j ∧ cd zs q = 13
def C16 (km n : Nat) (zs : List Int) (W : World) (s9 s10 : Value) (wx : World) : Prop := ∃ rb cb : Bool, s9 = .bool rb ∧ s10 = .bool cb ∧ (rb = true ↔ Ref n km zs km) ∧ (cb = true ↔ Cares zs km) ∧ W = wx
def M2 (km n : Nat) (zs : List Int) (W : World) (r c i : Value) (wr : World) : Prop := ∃ (j : Nat) (rb cb : Bool), j ≤ km ∧ r = .bool rb ∧ c = .bool cb ∧ i = .int .i64 j ∧ W = wr ∧ Hid (rb = true ↔ Ref n km zs j) ∧ Hid (cb = true ↔ Cares zs j)
theorem r_yes {n km : Nat} {zs : List Int} {j : Nat} (h : cd zs j = 13) : true = true ↔ Ref n km zs (j + 1) := ⟨fun _ => .inr ⟨j, by omega, h⟩, fun _ => rfl⟩
theorem r_no {n km : Nat} {zs : List Int} {j : Nat} {rb : Bool} (h : rb = true ↔ Ref n km zs j) (hc : cd zs j ≠ 13) : rb = true ↔ Ref n km zs (j + 1) := by
  rw [h]
  constructor
  · rintro (h | ⟨q, h1, h2⟩)
    · exact .inl h
    · exact .inr ⟨q, by omega, h2⟩
  · rintro (h | ⟨q, h1, h2⟩)
    · exact .inl h
    · by_cases e : q = j
      · subst e; exact absurd h2 hc
      · exact .inr ⟨q, by omega, h2⟩
theorem cm_ref {zs : List Int} {n km k : Nat} (hm : IsM zs n km) (hk : IsCut zs n k) (h : k < n) (h11 : cd zs k ≠ 11) : Ref n km zs km := by
  obtain ⟨m1, m2, m3⟩ := hm
  obtain ⟨k1, k2, k3⟩ := hk
  by_cases e : k < km
  · right
    have := m2 k e
    have := k3 h
    exact ⟨k, e, by omega⟩
  · have e2 : km = k := by
      by_cases e3 : km < k
      · have := k2 km e3
        have := m3 (by omega)
        omega
      · omega
    subst e2
    have := m3 h
    exact .inl ⟨h, by omega⟩
theorem cm_ok {zs : List Int} {n km k : Nat} (hm : IsM zs n km) (hk : IsCut zs n k) (h : k = n ∨ cd zs k = 11) : km = k ∧ ¬ Ref n km zs km := by
  obtain ⟨m1, m2, m3⟩ := hm
  obtain ⟨k1, k2, k3⟩ := hk
  have e2 : km = k := by
    by_cases e : k < km
    · have := m2 k e
      omega
    · by_cases e3 : km < k
      · have := k2 km e3
        have := m3 (by omega)
        omega
      · omega
  refine ⟨e2, ?_⟩
  subst e2
  rintro (⟨h1, h2⟩ | ⟨q, h1, h2⟩)
  · omega
  · have := k2 q h1
    omega
set_option maxRecDepth 100000 in
set_option maxHeartbeats 32000000 in
theorem walk (a0 : Option Addr) (len0 cap0 : Nat) (z0 : List Int) (a1 : Int) (w : World) (w0 : IsRow .u8 w a0 len0 cap0 z0) (w1 : (Lit.int .u8 a1).wf = true) :
    Calls Try.prog 4 #[.slice a0 len0 cap0, .int .u8 a1] w fun e w' => e = .returned (.bool true) ∧ Below w.heap.size w w' := by
  obtain ⟨l0, l0', hwf⟩ := len_ints w0
  by_cases c : 65536 < len0
  · exact early a0 len0 cap0 a1 w l0 c
  have b0 : len0 ≤ 65536 := by omega
  obtain ⟨y0, y1⟩ := wf_u8 w1
  obtain ⟨D, rfl⟩ : ∃ D : Nat, a1 = D := ⟨a1.toNat, by omega⟩
  have HY := Lib.hid (bytes11 a0 len0 cap0 (D : Int) w (by omega))
  have HWB := Lib.hid (wrapBody a0 len0 cap0 D z0 w (rowB w0) (rowZ w0) b0 (by omega))
  have HRB := Lib.hid (rowB w0)
  have hz := rowZ w0
  clear w0 w1 l0 l0' hwf c
  go_enter Try.func4, Try.ntmps4
  go_wp2_with fail
  refine HY.out.mono ?_
  rintro e w' ⟨rfl, rfl⟩
  clear HY
  go_upto_block 0 with (fail)
  go_cut [6, 7, 8] from 30 to 46 (fun s6 s7 s8 wx => CM len0 z0 w s6 wx)
  case first =>
    go_wp2_with fail
    go_loopw [6, 7] (fun k i wr => M1 len0 z0 w k i wr) (fun k i _ => len0 - (intOf i).toNat)
    case atStart => exact ⟨0, by omega, rfl, rfl, rfl, Lib.hid (fun q hq => absurd hq (by omega))⟩
    case round =>
      obtain ⟨j, hj, rfl, rfl, rfl, HM⟩ := hrel
      by_cases hjn : j < len0
      · obtain ⟨B, off, rfl, c0⟩ := HRB.out j hjn
        obtain ⟨z0', z1'⟩ := hz j
        have HCD := Lib.hid (show z0.getD j 0 % 14 = cd z0 j from rfl)
        obtain ⟨z, hzz⟩ : ∃ z, z = z0.getD j 0 := ⟨_, rfl⟩
        rw [← hzz] at c0 z0' z1' HCD
        have zc := HCD.out
        clear hzz
        have lB : B < w.heap.size := World.block_lt_of_cell? _ _ c0
        have q0 : (0 : Int) ≤ (j : Int) := Int.natCast_nonneg _
        have q1 : (j : Int) < (len0 : Int) := by omega
        by_cases e11 : cd z0 j = 11
        · have HI := Lib.hid (show IsM z0 len0 j from ⟨by omega, HM.out, fun _ => .inl e11⟩)
          go_wp2_with fail
          go_meet
          exact ⟨j, rfl, HI.out, rfl⟩
        · by_cases e12 : cd z0 j = 12
          · have HI := Lib.hid (show IsM z0 len0 j from ⟨by omega, HM.out, fun _ => .inr e12⟩)
            go_wp2_with fail
            go_meet
            exact ⟨j, rfl, HI.out, rfl⟩
          · have HN := Lib.hid (m_next HM.out ⟨e11, e12⟩)
            have f11 : (cd z0 j == 11) = false := by simp [e11]
            have f12 : (cd z0 j == 12) = false := by simp [e12]
            clear HM
            go_wp2_with fail
            go_roundw
            case rel => exact ⟨j + 1, by omega, rfl, by go_num, rfl, HN⟩
            case measure => simp [intOf]; omega
      · obtain rfl : j = len0 := by omega
        go_wp2_with fail
        go_meet
        exact ⟨j, rfl, ⟨by omega, HM.out, fun h => absurd h (by omega)⟩, rfl⟩
  case rest =>
  obtain ⟨km, rfl, him, rfl⟩ := hcut
  have HIM := Lib.hid him
  have hkm := him.1
  clear him
  go_upto_region 13 with (fail)
  go_cut [9] from 47 to 57 (fun s9 wx => C13 km len0 z0 w s9 wx)
  case first =>
    by_cases hk : km < len0
    · obtain ⟨B, off, rfl, c0⟩ := HRB.out km hk
      obtain ⟨z0', z1'⟩ := hz km
      have HCD := Lib.hid (show z0.getD km 0 % 14 = cd z0 km from rfl)
      obtain ⟨z, hzz⟩ : ∃ z, z = z0.getD km 0 := ⟨_, rfl⟩
      rw [← hzz] at c0 z0' z1' HCD
      have zc := HCD.out
      clear hzz
      have lB : B < w.heap.size := World.block_lt_of_cell? _ _ c0
      have q0 : (0 : Int) ≤ (km : Int) := Int.natCast_nonneg _
      have q1 : (km : Int) < (len0 : Int) := by omega
      by_cases e12 : cd z0 km = 12
      · go_wp2_with fail
        go_meet
        exact ⟨true, rfl, ⟨fun _ => ⟨hk, e12⟩, fun _ => rfl⟩, rfl⟩
      · have f12 : (cd z0 km == 12) = false := by simp [e12]
        have HN := Lib.hid e12
        clear e12
        go_wp2_with fail
        go_meet
        exact ⟨false, rfl, ⟨fun h => (by cases h), fun h => absurd h.2 HN.out⟩, rfl⟩
    · have hk2 : decide ((km : Int) < (len0 : Int)) = false := by simp; omega
      have hk3 : decide (km < len0) = false := by simp; omega
      go_wp2_with fail
      go_meet
      exact ⟨false, rfl, ⟨fun h => (by cases h), fun h => absurd h.1 hk⟩, rfl⟩
  case rest =>
  obtain ⟨rf, rfl, hrf, rfl⟩ := hcut
  have HRF := Lib.hid hrf
  clear hrf
  go_upto_block 2 with (fail)
  go_cut [9, 10, 11, 12] from 58 to 75 (fun s9 s10 s11 s12 wx => C16 km len0 z0 w s9 s10 wx)
  case first =>
    go_wp2_with fail
    go_loopw [9, 10, 11] (fun r c i wr => M2 km len0 z0 w r c i wr) (fun r c i _ => km - (intOf i).toNat)
    case atStart => exact ⟨0, rf, false, by omega, rfl, rfl, rfl, rfl, Lib.hid (by rw [HRF.out]; exact ⟨.inl, fun h => h.elim id (fun ⟨q, h, _⟩ => absurd h (by omega))⟩), Lib.hid ⟨fun h => (by cases h), fun ⟨q, h, _⟩ => absurd h (by omega)⟩⟩
    case round =>
      clear HRF
      obtain ⟨j, rb, cb, hj, rfl, rfl, rfl, rfl, HR, HC⟩ := hrel
      by_cases hjn : j < km
      · obtain ⟨B, off, rfl, c0⟩ := HRB.out j (by omega)
        obtain ⟨z0', z1'⟩ := hz j
        have HCD := Lib.hid (show z0.getD j 0 % 14 = cd z0 j from rfl)
        obtain ⟨z, hzz⟩ : ∃ z, z = z0.getD j 0 := ⟨_, rfl⟩
        rw [← hzz] at c0 z0' z1' HCD
        have zc := HCD.out
        clear hzz
        have lB : B < w.heap.size := World.block_lt_of_cell? _ _ c0
        have q0 : (0 : Int) ≤ (j : Int) := Int.natCast_nonneg _
        have q1 : (j : Int) < (len0 : Int) := by omega
        by_cases e13 : cd z0 j = 13
        · have HR1 := Lib.hid (r_yes (n := len0) (km := km) e13)
          have HC1 := Lib.hid (cares_no HC.out (by omega))
          clear HR HC
          go_wp2_with fail
          go_roundw
          case rel => exact ⟨j + 1, _, _, by omega, rfl, rfl, by go_num, rfl, HR1, HC1⟩
          case measure => simp [intOf]; omega
        · have f13 : (cd z0 j == 13) = false := by simp [e13]
          have HR1 := Lib.hid (r_no HR.out e13)
          clear HR
          by_cases e9 : cd z0 j = 9
          · have HC1 := Lib.hid (cares_yes (zs := z0) (j := j) (.inl e9))
            clear HC e13
            go_wp2_with fail
            go_roundw
            case rel => exact ⟨j + 1, _, _, by omega, rfl, rfl, by go_num, rfl, HR1, HC1⟩
            case measure => simp [intOf]; omega
          · have f9 : (cd z0 j == 9) = false := by simp [e9]
            by_cases e10 : cd z0 j = 10
            · have HC1 := Lib.hid (cares_yes (zs := z0) (j := j) (.inr e10))
              clear HC e13 e9
              go_wp2_with fail
              go_roundw
              case rel => exact ⟨j + 1, _, _, by omega, rfl, rfl, by go_num, rfl, HR1, HC1⟩
              case measure => simp [intOf]; omega
            · have f10 : (cd z0 j == 10) = false := by simp [e10]
              have HC1 := Lib.hid (cares_no HC.out ⟨e9, e10⟩)
              clear HC e13 e9 e10
              go_wp2_with fail
              go_roundw
              case rel => exact ⟨j + 1, _, _, by omega, rfl, rfl, by go_num, rfl, HR1, HC1⟩
              case measure => simp [intOf]; omega
      · obtain rfl : j = km := by omega
        go_wp2_with fail
        go_meet
        exact ⟨rb, cb, rfl, rfl, HR.out, HC.out, rfl⟩
  case rest =>
  obtain ⟨rb, cb, rfl, rfl, hrb, hcb, rfl⟩ := hcut
  have HRB2 := Lib.hid hrb
  have HCB := Lib.hid hcb
  clear HRF hrb hcb
  go_wp2_with fail
  refine HWB.out.mono ?_
  rintro e w2 ⟨ao, l, cc, xs, rfl, hwr, hown, hrw, hb2⟩
  obtain ⟨g, hg⟩ : ∃ g, g = w.heap.size := ⟨_, rfl⟩
  rw [← hg] at hwr hown hrw
  have hr := rows_of hown hrw
  have HR := Lib.hid hr
  have HB2 := Lib.hid hb2
  have HT := Lib.hid (try8 g len0 len0 z0 33554433 67108865 b0 (Nat.le_refl _) D 16777216 16777217 ao l cc w2 (by omega) hr hwr)
  clear hwr hown hrw hr hb2 HWB hg HRB
  go_wp2_with fail
  refine HT.out.mono ?_
  rintro e w3 ⟨hb3, k, hcut, hres⟩
  have HB3 := Lib.hid (HB2.out.trans (hb3.mono HB2.out.size))
  have HL3 := Lib.hid (HR.out.below hb3).locs
  clear hb3 HB2 HR HT
  rcases hres with ⟨hk, h11, rfl⟩ | ⟨hk, hnc, rfl⟩ | ⟨hk, hc, G, nb, rfl, c0, c1, c2, c3⟩
  · obtain rfl : rb = true := HRB2.out.2 (cm_ref HIM.out hcut hk h11)
    clear h11 hcut hk
    go_wp2_with fail
    go_ret
    exact ⟨rfl, HB3.out⟩
  · obtain ⟨rfl, hno⟩ := cm_ok HIM.out hcut hk
    obtain rfl : rb = false := by cases rb; rfl; exact absurd (HRB2.out.1 rfl) hno
    obtain rfl : cb = false := by cases cb; rfl; exact absurd (HCB.out.1 rfl) hnc
    have HLO := Lib.hid (locsOne g km len0 w3 (fun q hq => HL3.out q (by have := hcut.1; omega)) (by have := hcut.1; omega))
    clear hno hnc hk hcut
    by_cases hD : D = 0
    · subst hD
      go_wp2_with fail
      refine HLO.out.mono ?_
      rintro e w4 ⟨rfl, rfl⟩
      go_wp2_with fail
      go_ret
      exact ⟨rfl, HB3.out⟩
    · have d1 : decide ((0 : Int) < (D : Int)) = true := by simp; omega
      have d2 : decide (0 < D) = true := by simp; omega
      go_wp2_with fail
      refine HLO.out.mono ?_
      rintro e w4 ⟨rfl, rfl⟩
      go_wp2_with fail
      go_ret
      exact ⟨rfl, HB3.out⟩
  · obtain ⟨rfl, hno⟩ := cm_ok HIM.out hcut hk
    obtain rfl : rb = false := by cases rb; rfl; exact absurd (HRB2.out.1 rfl) hno
    obtain rfl : cb = true := HCB.out.2 hc
    have HLO := Lib.hid (fun (W : World) (hb : Below w3.heap.size w3 W) => locsOne g km len0 W (fun q hq => kept hb (HL3.out q (by have := hcut.1; omega))) (by have := hcut.1; omega))
    have lG : G < w3.heap.size := World.block_lt_of_cell? _ _ c0
    clear hno hc hk hcut
    by_cases hD : D = 0
    · subst hD
      have c1' : w3.cell? ⟨G, 1, none⟩ = some (.int .i32 16777216) := c1
      have c3' : w3.cell? ⟨nb, 1, none⟩ = some (.int .i32 16777217) := c3
      have HBP := Lib.hid (bp_yes nb 16777216 16777217 (some ⟨g, 0, none⟩) km len0 w3 c2 c3')
      clear c1 c3 c2 c3'
      go_wp2_with fail
      refine HBP.out.mono ?_
      rintro e w4 ⟨rfl, hb4⟩
      have HB4 := Lib.hid (HB3.out.trans (hb4.mono HB3.out.size))
      have HLO4 := Lib.hid (HLO.out w4 hb4)
      clear hb4 HBP HLO
      go_wp2_with fail
      refine HLO4.out.mono ?_
      rintro e w5 ⟨rfl, rfl⟩
      go_wp2_with fail
      go_ret
      exact ⟨rfl, HB4.out⟩
    · have d1 : decide ((0 : Int) < (D : Int)) = true := by simp; omega
      have d2 : decide (0 < D) = true := by simp; omega
      have c1' : w3.cell? ⟨G, 1, none⟩ = some (.int .i32 33554433) := by rw [c1]; simp [oL, hD]
      have c3' : w3.cell? ⟨nb, 1, none⟩ = some (.int .i32 67108865) := by rw [c3]; simp [cL, hD]
      have HBP := Lib.hid (bp_yes nb 33554433 67108865 (some ⟨g, 0, none⟩) km len0 w3 c2 c3')
      clear c1 c3 c2 c3'
      go_wp2_with fail
      refine HBP.out.mono ?_
      rintro e w4 ⟨rfl, hb4⟩
      have HB4 := Lib.hid (HB3.out.trans (hb4.mono HB3.out.size))
      have HLO4 := Lib.hid (HLO.out w4 hb4)
      clear hb4 HBP HLO
      go_wp2_with fail
      refine HLO4.out.mono ?_
      rintro e w5 ⟨rfl, rfl⟩
      go_wp2_with fail
      go_ret
      exact ⟨rfl, HB4.out⟩
end Go.Proofs.Ytjnffbnipjkibaa.fnTryToInlineCaseBodyModel
