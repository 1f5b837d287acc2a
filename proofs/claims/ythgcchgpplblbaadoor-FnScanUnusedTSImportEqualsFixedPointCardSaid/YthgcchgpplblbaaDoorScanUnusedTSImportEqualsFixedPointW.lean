/- Proved here: the walk of the law FnScanUnusedTSImportEqualsFixedPoint: it answers true. Conditions as stated. -/
import Derived.Test.YthgcchgpplblbaaDoorUXH
import Derived.WalkKit
import Derived.WalkSpells
import Derived.WalkLawsBesides
import Derived.Lib.Hide
import Derived.Lib.SliceRun
import Derived.Deep.RegionWith
import Derived.OwnWalk
import Derived.Laws.OwnMore
import Derived.BigRegion
import Derived.Carry
import Derived.IntWalk
namespace Go.Proofs.YthgcchgpplblbaaDoor
open Go.RowKit
set_option linter.unusedSimpArgs false
set_option linter.unusedVariables false

open UX
theorem rowU {w : World} {a : Option Addr} {n c : Nat} {z : List Int} (h : IsRow .u32 w a n c z) : RowU w a n z := by
  intro hp
  rcases h with ⟨_, rfl, _⟩ | ⟨x, rfl, hl, hm, hz, hcell, _⟩
  · omega
  · obtain ⟨b, off, rfl⟩ := spot_none (hcell 0 (by omega))
    exact ⟨b, off, rfl, fun i hi => by rw [← add_none]; exact hcell i (by omega)⟩
theorem rowB {w : World} {a : Option Addr} {n c : Nat} {z : List Int} (h : IsRow .u8 w a n c z) : RowB w a n z := by
  intro hp
  rcases h with ⟨_, rfl, _⟩ | ⟨x, rfl, hl, hm, hz, hcell, _⟩
  · omega
  · obtain ⟨b, off, rfl⟩ := spot_none (hcell 0 (by omega))
    exact ⟨b, off, rfl, fun i hi => by rw [← add_none]; exact hcell i (by omega)⟩
theorem lenRow {k : IntKind} {w : World} {a : Option Addr} {n c : Nat} {z : List Int} (h : IsRow k w a n c z) : n ≤ 9223372036854775807 := by
  rcases h with ⟨_, rfl, _, rfl⟩ | ⟨x, _, hl, hm, _⟩
  · omega
  · unfold maxLen at hm; omega
theorem bndU {w : World} {a : Option Addr} {n c : Nat} {z : List Int} (h : IsRow .u32 w a n c z) (i : Nat) : 0 ≤ z.getD i 0 ∧ z.getD i 0 ≤ 4294967295 := by
  rcases h with ⟨_, _, _, rfl⟩ | ⟨x, _, hl, hm, hz, _, hw⟩
  · simp
  · by_cases hi : i < z.length
    · simp only [List.getD, List.getElem?_eq_getElem hi, Option.getD_some]
      have := hw _ (List.getElem_mem hi)
      have hmin : IntKind.u32.min = 0 := rfl
      have hmax : IntKind.u32.max = 4294967295 := rfl
      simp only [Lit.wf, Bool.and_eq_true, decide_eq_true_eq] at this
      omega
    · simp [List.getD, List.getElem?_eq_none (Nat.le_of_not_lt hi)]
theorem bndB {w : World} {a : Option Addr} {n c : Nat} {z : List Int} (h : IsRow .u8 w a n c z) (i : Nat) : 0 ≤ z.getD i 0 ∧ z.getD i 0 ≤ 255 := by
  rcases h with ⟨_, _, _, rfl⟩ | ⟨x, _, hl, hm, hz, _, hw⟩
  · simp
  · by_cases hi : i < z.length
    · simp only [List.getD, List.getElem?_eq_getElem hi, Option.getD_some]
      exact wf_u8 (hw _ (List.getElem_mem hi))
    · simp [List.getD, List.getElem?_eq_none (Nat.le_of_not_lt hi)]
def ZB (w : World) (e : Ending) (w' : World) : Prop := ∃ b : Bool, e = .returned (.bool b) ∧ w = w'
set_option maxRecDepth 100000 in
set_option maxHeartbeats 4000000 in
theorem zbytes (a0 a1 a2 a3 : Option Addr) (n0 n1 n2 n3 c0 c1 c2 c3 : Nat) (w : World) (h0 : n0 ≤ 9223372036854775807) (h1 : n1 ≤ 9223372036854775807) (h2 : n2 ≤ 9223372036854775807) (h3 : n3 ≤ 9223372036854775807) : Calls Tryd.prog 4 #[.slice a0 n0 c0, .slice a1 n1 c1, .slice a2 n2 c2, .slice a3 n3 c3] w (ZB w) := by
  have g0 : (0 : Int) ≤ (n0 : Int) ∧ (n0 : Int) ≤ 9223372036854775807 := by omega
  have g1 : (0 : Int) ≤ (n1 : Int) ∧ (n1 : Int) ≤ 9223372036854775807 := by omega
  have g2 : (0 : Int) ≤ (n2 : Int) ∧ (n2 : Int) ≤ 9223372036854775807 := by omega
  have g3 : (0 : Int) ≤ (n3 : Int) ∧ (n3 : Int) ≤ 9223372036854775807 := by omega
  obtain ⟨_, _⟩ := g0
  obtain ⟨_, _⟩ := g1
  obtain ⟨_, _⟩ := g2
  obtain ⟨_, _⟩ := g3
  clear h0 h1 h2 h3
  go_enter Tryd.func4, Tryd.ntmps4
  go_wp2_with fail
  all_goals (go_ret; exact ⟨_, rfl, rfl⟩)
theorem KZ.below {Y S B : Nat} {w w' : World} (h : KZ Y S w w') (hB : B ≤ w.heap.size) (hy : B ≤ Y) (hs : B ≤ S) : Below B w w' := ⟨h.1.os, h.1.tape, h.1.output, h.1.size, fun k hk => h.2 k (by omega) (by omega) (by omega)⟩
theorem range_getD {m q : Nat} (h : q < m) : (List.range m).getD q 0 = q := by simp [List.getD, h]
/-- Between the rounds: J the statements that are left, C the counts. -/
structure RD (p Y S n m : Nat) (kd : Nat → Int) (b v : Nat → Nat) (dat : Nat → Value) (C : List Int) (J : List Nat) (W1 w : World) : Prop where
  px : PX w p Y n
  sy : SYM w Y n C
  sr : SR w S m dat J 0 []
  da : DATS w m kd b v dat
  kz : KZ Y S W1 w
  g0 : w.cell? ⟨0, 0, none⟩ = some (.int .u32 4294967295)
  g1 : w.cell? ⟨0, 1, none⟩ = some (.int .u32 4294967295)
  sub : J.Sublist (List.range m)
  kp : ∀ i, i < m → ¬ (kd i = 1 ∨ kd i = 2) → i ∈ J
def lenOfV : Value → Nat | .slice _ l _ => l | _ => 0
def prevOf (J : List Nat) (j : Nat) : Int := if j = 0 then -1 else ((J.getD (j - 1) 0 : Nat) : Int)
theorem prev_lt {J : List Nat} {m j : Nat} (h : J.Sublist (List.range m)) (hj : j < J.length) : prevOf J j < ((J.getD j 0 : Nat) : Int) := by
  have hp : J.Pairwise (· < ·) := List.Pairwise.sublist h List.pairwise_lt_range
  unfold prevOf
  split
  · omega
  · have := List.pairwise_iff_getElem.1 hp (j - 1) j (by omega) hj (by omega)
    simp only [List.getD, List.getElem?_eq_getElem (show j - 1 < J.length by omega), List.getElem?_eq_getElem hj, Option.getD_some]
    omega
theorem mem_lt {J : List Nat} {m j : Nat} (h : J.Sublist (List.range m)) (hj : j < J.length) : J.getD j 0 < m := by
  have : J.getD j 0 ∈ J := by simp [List.getD, List.getElem?_eq_getElem hj]
  simpa using h.subset this
def L2rel (W2 : World) (m V : Nat) (J : List Nat) (s23 s24 : Value) (wr : World) : Prop := ∃ (j : Nat) (pv : Int), j ≤ J.length ∧ s24 = .int .i64 j ∧ s23 = .int .i64 pv ∧ Hid (pv = prevOf J j ∧ (∃ cv, At wr V 4 cv ∧ cv.size = m ∧ ∀ i, i < m → cv[i]? = some (.bool (decide (i ∈ J.take j)))) ∧ Below W2.heap.size W2 wr)
def RDrel (p Y S n m : Nat) (kd : Nat → Int) (b v : Nat → Nat) (dat : Nat → Value) (W1 : World) (s15 s17 : Value) (w : World) : Prop := ∃ (rd l : Nat) (C : List Int) (J : List Nat), s17 = .int .i64 rd ∧ s15 = .slice (some ⟨S, 0, none⟩) l m ∧ l + rd ≤ m ∧ Hid (RD p Y S n m kd b v dat C J W1 w ∧ J.length = l)
namespace fnScanUnusedTSImportEqualsFixedPoint
set_option maxRecDepth 100000 in
set_option maxHeartbeats 16000000 in
theorem walk (a0 : Option Addr) (len0 cap0 : Nat) (z0 : List Int) (a1 : Option Addr) (len1 cap1 : Nat) (z1 : List Int) (a2 : Option Addr) (len2 cap2 : Nat) (z2 : List Int) (a3 : Option Addr) (len3 cap3 : Nat) (z3 : List Int) (w : World) (w0 : IsRow .u32 w a0 len0 cap0 z0) (w1 : IsRow .u8 w a1 len1 cap1 z1) (w2 : IsRow .u32 w a2 len2 cap2 z2) (w3 : IsRow .u32 w a3 len3 cap3 z3) (hg0 : w.cell? ⟨0, 0, none⟩ = some (.int .u32 4294967295)) (hg1 : w.cell? ⟨0, 1, none⟩ = some (.int .u32 4294967295)) :
    Calls Tryd.prog 3 #[.slice a0 len0 cap0, .slice a1 len1 cap1, .slice a2 len2 cap2, .slice a3 len3 cap3] w fun e w' => e = .returned (.bool true) ∧ Below w.heap.size w w' := by
  have HBY := Lib.hid (zbytes a0 a1 a2 a3 len0 len1 len2 len3 cap0 cap1 cap2 cap3 w (lenRow w0) (lenRow w1) (lenRow w2) (lenRow w3))
  have HR0 := Lib.hid (rowU w0)
  have HR1 := Lib.hid (rowB w1)
  have HR2 := Lib.hid (rowU w2)
  have HR3 := Lib.hid (rowU w3)
  have HZ1 := Lib.hid (bndB w1)
  have HZ2 := Lib.hid (bndU w2)
  have HZ3 := Lib.hid (bndU w3)
  have HG := Lib.hid (⟨hg0, hg1⟩ : w.cell? ⟨0, 0, none⟩ = some (.int .u32 4294967295) ∧ w.cell? ⟨0, 1, none⟩ = some (.int .u32 4294967295))
  have HW0 := Lib.hid (World.block_lt_of_cell? _ _ hg0)
  have hl0 : (0 : Int) ≤ (len0 : Int) := Int.natCast_nonneg _
  have hl1 : (0 : Int) ≤ (len1 : Int) := Int.natCast_nonneg _
  have hl2 : (0 : Int) ≤ (len2 : Int) := Int.natCast_nonneg _
  have hl3 : (0 : Int) ≤ (len3 : Int) := Int.natCast_nonneg _
  clear hg0 hg1 w0 w1 w2 w3
  go_enter Tryd.func3, Tryd.ntmps3
  go_wp2_with fail
  refine HBY.out.mono ?_
  rintro e wz ⟨bb, rfl, rfl⟩
  clear HBY
  cases bb
  · go_wp2_with fail
    go_ret
    exact ⟨rfl, Below.refl _ _⟩
  by_cases h0 : (4096 : Int) < (len0 : Int)
  · go_wp2_with fail
    go_ret
    exact ⟨rfl, Below.refl _ _⟩
  by_cases h1 : (4096 : Int) < (len1 : Int)
  · go_wp2_with fail
    go_ret
    exact ⟨rfl, Below.refl _ _⟩
  by_cases h2 : (4096 : Int) < (len2 : Int)
  · go_wp2_with fail
    go_ret
    exact ⟨rfl, Below.refl _ _⟩
  by_cases h3 : (4096 : Int) < (len3 : Int)
  · go_wp2_with fail
    go_ret
    exact ⟨rfl, Below.refl _ _⟩
  have g0 : (len0 : Int) ≤ 4096 := by omega
  have g1 : (len1 : Int) ≤ 4096 := by omega
  have g2 : (len2 : Int) ≤ 4096 := by omega
  have g3 : (len3 : Int) ≤ 4096 := by omega
  clear h0 h1 h2 h3
  by_cases hz : (len0 : Int) = 0
  · have hz' : ((len0 : Int) == 0) = true := by simp [hz]
    clear hz
    go_wp2_with fail
    go_ret
    exact ⟨rfl, Below.refl _ _⟩
  have hz' : ((len0 : Int) == 0) = false := by rw [beq_eq_false_iff_ne]; exact hz
  have HNP := Lib.hid (show 0 < len0 ∧ len0 ≤ 4096 ∧ len1 ≤ 4096 from by omega)
  have HBU := Lib.hid (build a1 a2 a3 len1 cap1 len2 cap2 len3 cap3 len0 z1 z2 z3 w HR1.out HR2.out HR3.out HNP.out.2.2 ⟨HNP.out.1, HNP.out.2.1⟩ HZ1.out HZ2.out HZ3.out)
  clear hz
  go_wp2_with fail
  refine HBU.out.mono ?_
  rintro e wA ⟨S, dat, rfl, hbs⟩
  have HBS := Lib.hid hbs
  clear hbs HBU
  go_wp2_with fail
  refine (zsyms a0 len0 cap0 len0 z0 wA (HR0.out.below HBS.out.be) HNP.out.2.1).mono ?_
  rintro e wB ⟨Y, rfl, hsy, hY, hbB⟩
  have HSY := Lib.hid hsy
  have HYB := Lib.hid (⟨hY, hbB⟩ : wA.heap.size ≤ Y ∧ Below wA.heap.size wA wB)
  clear hsy hY hbB
  go_wp2_with fail
  refine (newP Y len0 wB).mono ?_
  rintro e W1 ⟨rfl, hpx, hb1⟩
  obtain ⟨p, hp⟩ : ∃ p, p = wB.heap.size := ⟨_, rfl⟩
  rw [← hp] at hpx ⊢
  clear hp
  have HBA := Lib.hid (show Below wA.heap.size wA W1 from HYB.out.2.trans (hb1.mono HYB.out.2.size))
  have HBW := Lib.hid (show Below w.heap.size w W1 from HBS.out.be.trans (HBA.out.mono HBS.out.be.size))
  have HST := Lib.hid (show RD p Y S len0 len1 (kF z1) (bF z2 len2 len0) (vF z3 len3 len0) dat (C0 z0 len0 len0) (List.range len1) W1 W1 from
    ⟨hpx, HSY.out.below hb1, by
      obtain ⟨cs, q1, q2, q3⟩ := HBS.out.rs
      exact ⟨cs, q1.below HBA.out q1.lt, q2, (fun q hq => by simp at hq), fun q _ hq => by
        simp at hq
        rw [range_getD hq]
        exact q3 q hq⟩, HBS.out.da.keep (KX.below HBA.out), KZ.of_below (Below.refl _ _), kept HBW.out HG.out.1, kept HBW.out HG.out.2, List.Sublist.refl _, fun i hi _ => by simpa using hi⟩)
  have HLY := Lib.hid (⟨by have := HYB.out.1; have := HBS.out.be.size; omega, HBS.out.ge⟩ : w.heap.size ≤ Y ∧ w.heap.size ≤ S)
  have HRK := Lib.hid (show ∃ ck, At W1 (S + 1) 3 ck ∧ ck.size = len1 ∧ ∀ q, q < len1 → ck[q]? = some (.int .i64 (kF z1 q)) from by obtain ⟨ck, q1, q2⟩ := HBS.out.rk; exact ⟨ck, q1.below HBA.out q1.lt, q2⟩)
  have HRB := Lib.hid (show ∃ ck, At W1 (S + 1 + 1) 44 ck ∧ ck.size = len1 ∧ ∀ q, q < len1 → ck[q]? = some (.int .u32 ((bF z2 len2 len0 q : Nat) : Int)) from by obtain ⟨ck, q1, q2⟩ := HBS.out.rb; exact ⟨ck, q1.below HBA.out q1.lt, q2⟩)
  have HAT := Lib.hid (show (∃ cy, At W1 Y 54 cy) ∧ ∃ cs, At W1 S 42 cs from ⟨by obtain ⟨cy, h, _⟩ := HST.out.sy; exact ⟨cy, h⟩, by obtain ⟨cy, h, _⟩ := HST.out.sr; exact ⟨cy, h⟩⟩)
  have HKD := Lib.hid (show ∀ i, i < len1 → 0 ≤ kF z1 i ∧ kF z1 i ≤ 5 from fun i _ => by unfold kF; omega)
  have HBV := Lib.hid (show ∀ i, i < len1 → bF z2 len2 len0 i < len0 ∧ vF z3 len3 len0 i < len0 from fun i _ => by
    have h := HNP.out.1
    unfold bF vF
    have e1 := Int.emod_lt_of_pos (gU z2 len2 i (i : Int)) (show (0 : Int) < (len0 : Int) by omega)
    have e2 := Int.emod_nonneg (gU z2 len2 i (i : Int)) (show (len0 : Int) ≠ 0 by omega)
    have e3 := Int.emod_lt_of_pos (gU z3 len3 i ((i : Int) + 1)) (show (0 : Int) < (len0 : Int) by omega)
    have e4 := Int.emod_nonneg (gU z3 len3 i ((i : Int) + 1)) (show (len0 : Int) ≠ 0 by omega)
    omega)
  have HS0 := Lib.hid (show 0 ≠ Y ∧ 0 ≠ S from by have := HLY.out; have := HW0.out; simp at *; omega)
  clear hpx hb1 HSY HYB HBS HBA
  go_wp2_with fail
  go_loopw [15, 17] (fun s15 s17 wr => RDrel p Y S len0 len1 (kF z1) (bF z2 len2 len0) (vF z3 len3 len0) dat W1 s15 s17 wr) (fun s15 _ _ => lenOfV s15)
  case atStart => exact ⟨0, len1, _, _, rfl, rfl, by omega, Lib.hid ⟨HST.out, by simp⟩⟩
  case round =>
    obtain ⟨rd, l, C, J, rfl, rfl, hlr, H⟩ := hrel
    have hrd0 : (0 : Int) ≤ (rd : Int) := Int.natCast_nonneg _
    have hl00 : (0 : Int) ≤ (l : Int) := Int.natCast_nonneg _
    have hrd1 : (rd : Int) ≤ (len1 : Int) := by omega
    have hll1 : (l : Int) ≤ (len1 : Int) := by omega
    have HSC := Lib.hid (zscan p Y S len0 len1 l len1 _ _ _ dat C J wr (scan p Y S len0 len1 l len1 (kF z1) (bF z2 len2 len0) (vF z3 len3 len0) dat C J wr H.out.1.px H.out.1.sy H.out.1.sr H.out.1.da H.out.2 (by omega) (Nat.le_refl _) HNP.out.2.2 HNP.out.2.1 (fun i hi => by simpa using H.out.1.sub.subset hi) HBV.out HKD.out HS0.out H.out.1.g0 H.out.1.g1))
    have HLR := Lib.hid hlr
    clear hlr
    go_wp2_with fail
    refine HSC.out.mono ?_
    rintro e w4 ⟨K, C', kp, rm, rfl, hsi, hpx, hsy, hsr, hda, hkz, hg0, hg1⟩
    have hkz1 := H.out.1.kz.trans hkz
    cases rm
    · obtain ⟨hK, rfl, hC⟩ := hsi.eq rfl
      have hlJ := H.out.2
      rw [← hlJ, List.take_length] at hK hC
      subst hK
      have HE := Lib.hid (⟨⟨hpx, hsy, hsr, hda, hkz1, hg0, hg1, H.out.1.sub, H.out.1.kp⟩, hC, hlJ⟩ : RD p Y S len0 len1 (kF z1) (bF z2 len2 len0) (vF z3 len3 len0) dat C' K W1 w4 ∧ (∀ i ∈ K, (kF z1 i = 1 ∨ kF z1 i = 2) → C'.getD (bF z2 len2 len0 i) 0 ≠ 0) ∧ K.length = l)
      clear hpx hsy hsr hda hkz hkz1 hg0 hg1 hC hsi HSC
      rw [hlJ]
      clear hlJ
      have HSO := Lib.hid (symsOf p Y len0 w4 HE.out.1.px)
      go_wp2_with fail
      refine HSO.out.mono ?_
      rintro e w5 ⟨rfl, rfl⟩
      have hmk := made (P := Tryd.prog) (t := 36) (e := 4) (z := .bool false) (sz := 1) (by_ := 1) Tryd.underlying36 (by kernel_rfl) w4 len1 (by omega) (by omega)
      rw [Nat.mul_one] at hmk
      obtain ⟨V, hV⟩ : ∃ V, V = w4.heap.size := ⟨_, rfl⟩
      have HS2 := Lib.hid (show L2rel w4 len1 V K (.int .i64 (-1)) (.int .i64 0) (w4.alloc (.cells (madeCells (Value.bool false).cells len1) 4)) from ⟨0, -1, Nat.zero_le _, rfl, rfl, Lib.hid ⟨rfl, ⟨_, by rw [hV]; exact At.new _ _ _, by simp [size_madeCells, Value.cells], fun i hi => by rw [show (Value.bool false).cells = #[.bool false] from rfl, madeAt _ _ _ hi]; simp⟩, (Below.refl _ _).alloc (Nat.le_refl _) _⟩⟩)
      clear HSO
      go_wp2_with fail
      rw [← hV] at hmk ⊢
      clear hmk
      go_loopw [23, 24] (fun s23 s24 wr => L2rel w4 len1 V K s23 s24 wr) (fun _ s24 _ => l - (intOf s24).toNat)
      case atStart => exact HS2.out
      case round =>
        obtain ⟨j, pv, hj, rfl, rfl, H2⟩ := hrel
        have HVE := Lib.hid hV
        clear hV HS2
        have hj0 : (0 : Int) ≤ (j : Int) := Int.natCast_nonneg _
        have hjl : j ≤ l := by have := HE.out.2.2; omega
        clear hj
        rename World => wx
        have HBX := Lib.hid H2.out.2.2
        have SK : ∀ i, i < len1 → wx.cell? ⟨S + 1, i, none⟩ = some (.int .i64 (kF z1 i)) := fun i hi => by
          obtain ⟨ck, q1, q2, q3⟩ := HRK.out
          obtain ⟨⟨cy, qy⟩, ⟨cs, qs⟩⟩ := HAT.out
          have a1 : At w4 (S + 1) 3 ck := (HE.out.1.kz.2 _ q1.lt (atNe q1 qy (by decide)) (atNe q1 qs (by decide))).trans q1
          rw [(a1.below HBX.out a1.lt).cell]
          exact q3 i hi
        have SB : ∀ i, i < len1 → wx.cell? ⟨S + 1 + 1, i, none⟩ = some (.int .u32 ((bF z2 len2 len0 i : Nat) : Int)) := fun i hi => by
          obtain ⟨ck, q1, q2, q3⟩ := HRB.out
          obtain ⟨⟨cy, qy⟩, ⟨cs, qs⟩⟩ := HAT.out
          have a1 : At w4 (S + 1 + 1) 44 ck := (HE.out.1.kz.2 _ q1.lt (atNe q1 qy (by decide)) (atNe q1 qs (by decide))).trans q1
          rw [(a1.below HBX.out a1.lt).cell]
          exact q3 i hi
        have HSK := Lib.hid SK
        have HSB := Lib.hid SB
        clear SK SB
        by_cases hlt : j < l
        · have hlt1 : (j : Int) < (l : Int) := by omega
          have hjK : j < K.length := by have := HE.out.2.2; omega
          obtain ⟨i, hi⟩ : ∃ i, i = K.getD j 0 := ⟨_, rfl⟩
          have him : i < len1 := by rw [hi]; exact mem_lt HE.out.1.sub hjK
          have hiK : i ∈ K := by rw [hi]; simp [List.getD, List.getElem?_eq_getElem hjK]
          have hpl : pv < (i : Int) := by rw [H2.out.1, hi]; exact prev_lt HE.out.1.sub hjK
          have hi0 : (0 : Int) ≤ (i : Int) := Int.natCast_nonneg _
          have him1 : (i : Int) < (len1 : Int) := by omega
          have u1 : Value.int .i64 (IntKind.i64.wrap (i : Int)) = .int .i64 (i : Int) := by rw [IntWalk.i64_in _ (by omega)]
          obtain ⟨cs, qS, qSs, _, qS4⟩ := HE.out.1.sr
          have c0 : wx.cell? ⟨S, j * 2 + 1, none⟩ = some (.int .i32 (i : Int)) := by rw [(qS.below HBX.out qS.lt).cell, (qS4 j (Nat.zero_le _) hjK).2, ← hi]
          have lS := (qS.below HBX.out qS.lt).lt
          obtain ⟨cv, qV, qVs, qV4⟩ := H2.out.2.1
          have c1 : wx.cell? ⟨V, i, none⟩ = some (.bool (decide (i ∈ K.take j))) := by rw [qV.cell]; exact qV4 i him
          have f1 := qV.frozen i
          have lV := qV.lt
          have c2 := HSK.out i him
          have c3 := HSB.out i him
          have lk := World.block_lt_of_cell? _ _ c2
          have lb := World.block_lt_of_cell? _ _ c3
          obtain ⟨bi, hbi⟩ : ∃ bi, bi = bF z2 len2 len0 i := ⟨_, rfl⟩
          rw [← hbi] at c3
          have hbn : bi < len0 := by rw [hbi]; exact (HBV.out i him).1
          obtain ⟨cy, qY, qYs, qC, qY4⟩ := HE.out.1.sy
          have c4 : wx.cell? ⟨Y, bi * 10 + 4, none⟩ = some (.int .u32 (C'.getD bi 0)) := by rw [(qY.below HBX.out qY.lt).cell]; exact qY4 bi hbn
          have lY := (qY.below HBX.out qY.lt).lt
          have hb0 : (0 : Int) ≤ (bi : Int) := Int.natCast_nonneg _
          have hb1 : (bi : Int) < (len0 : Int) := by omega
          obtain ⟨kk, hkk⟩ : ∃ kk, kk = kF z1 i := ⟨_, rfl⟩
          rw [← hkk] at c2
          obtain ⟨cb, hcb⟩ : ∃ cb, cb = C'.getD bi 0 := ⟨_, rfl⟩
          rw [← hcb] at c4
          have HCB := Lib.hid (show (kk = 1 ∨ kk = 2) → cb ≠ 0 from fun h => by rw [hcb, hbi]; exact HE.out.2.1 i hiK (by rw [← hkk]; exact h))
          have HQV := Lib.hid (⟨qV, qVs, qV4⟩ : At wx V 4 cv ∧ cv.size = len1 ∧ ∀ i, i < len1 → cv[i]? = some (.bool (decide (i ∈ K.take j))))
          have HI := Lib.hid (⟨hi, hjK, him⟩ : i = K.getD j 0 ∧ j < K.length ∧ i < len1)
          have hpv : ¬ (i : Int) ≤ pv := by omega
          have hge : ¬ (len1 : Int) ≤ (i : Int) := by omega
          obtain ⟨dd, hdd⟩ : ∃ dd, dd = decide (i ∈ K.take j) := ⟨_, rfl⟩
          rw [← hdd] at c1
          have hVS : ¬ V = S + 1 := fun e => by
            obtain ⟨ck, q1, q2, q3⟩ := HRK.out
            have := q1.lt
            have := HE.out.1.kz.1.size
            have := HVE.out
            omega
          have hVB : ¬ V = S + 1 + 1 := fun e => by
            obtain ⟨ck, q1, q2, q3⟩ := HRB.out
            have := q1.lt
            have := HE.out.1.kz.1.size
            have := HVE.out
            omega
          have hVY : ¬ V = Y := fun e => by
            have := qY.lt
            have := HVE.out
            omega
          have hSV : ¬ S + 1 = V := fun e => hVS e.symm
          have hBV : ¬ S + 1 + 1 = V := fun e => hVB e.symm
          have hYV : ¬ Y = V := fun e => hVY e.symm
          clear hi hbi hkk hcb hdd qS qSs qS4 qV qVs qV4 qY qYs qC qY4 hpl hbn hjK him hiK
          have END := Lib.hid (show L2rel w4 len1 V K (.int .i64 (i : Int)) (.int .i64 ((j : Int) + 1)) (wx.setCell ⟨V, i, none⟩ (.bool true)) from ⟨j + 1, i, by have := HI.out.2.1; omega, by go_num, rfl, Lib.hid ⟨by rw [prevOf, if_neg (by omega)]; simp [HI.out.1], ⟨_, HQV.out.1.set i _, by simp [HQV.out.2.1], fun x hx => by
            have hsz := HQV.out.2.1
            have ht : K.take (j + 1) = K.take j ++ [i] := by rw [take_snoc HI.out.2.1, ← HI.out.1]
            by_cases e : x = i
            · subst e
              rw [Array.getElem?_setIfInBounds_self_of_lt (by omega), ht]
              simp
            · rw [Array.getElem?_setIfInBounds_ne (by omega), HQV.out.2.2 x hx, ht]
              simp [e]⟩, HBX.out.setCell (by have := HVE.out; simp; omega) _⟩⟩)
          by_cases k1 : kk = 1
          · have k1b : (kk == 1) = true := by simp [k1]
            have hcb0 : (cb == 0) = false := by rw [beq_eq_false_iff_ne]; exact HCB.out (.inl k1)
            clear k1
            go_wp2_with fail
            go_roundw
            case rel => exact END.out
            case measure => simp [intOf]; omega
          · have k1b : (kk == 1) = false := by rw [beq_eq_false_iff_ne]; exact k1
            by_cases k2 : kk = 2
            · have k2b : (kk == 2) = true := by simp [k2]
              have hcb0 : (cb == 0) = false := by rw [beq_eq_false_iff_ne]; exact HCB.out (.inr k2)
              clear k1 k2
              go_wp2_with fail
              go_roundw
              case rel => exact END.out
              case measure => simp [intOf]; omega
            · have k2b : (kk == 2) = false := by rw [beq_eq_false_iff_ne]; exact k2
              clear k1 k2
              go_wp2_with fail
              go_roundw
              case rel => exact END.out
              case measure => simp [intOf]; omega
        · obtain rfl : j = l := by omega
          have hlt1 : ¬ (j : Int) < (j : Int) := by omega
          clear hlt hjl
          obtain ⟨cv, qV, qVs, qV4⟩ := H2.out.2.1
          have HQ := Lib.hid (show ∀ i, i < len1 → wx.cell? ⟨V, i, none⟩ = some (.bool (decide (i ∈ K))) from fun i hi => by
            rw [qV.cell, qV4 i hi, ← HE.out.2.2, List.take_length])
          have lV := qV.lt
          clear qV qVs qV4
          have HFIN := Lib.hid (show Below w.heap.size w wx from HBW.out.trans ((KZ.below HE.out.1.kz HBW.out.size HLY.out.1 HLY.out.2).trans (HBX.out.mono (by have := HBW.out.size; have := HE.out.1.kz.1.size; omega))))
          go_wp2_with fail
          go_loopw [27] (fun s27 wr => ∃ i : Nat, i ≤ len1 ∧ s27 = .int .i64 i ∧ wr = wx) (fun s27 _ => len1 - (intOf s27).toNat)
          case atStart => exact ⟨0, Nat.zero_le _, rfl, rfl⟩
          case round =>
            obtain ⟨i, hi, rfl, rfl⟩ := hrel
            have hi0 : (0 : Int) ≤ (i : Int) := Int.natCast_nonneg _
            by_cases hil : i < len1
            · have hil1 : (i : Int) < (len1 : Int) := by omega
              have c2 := HSK.out i hil
              have lk := World.block_lt_of_cell? _ _ c2
              obtain ⟨kk, hkk⟩ : ∃ kk, kk = kF z1 i := ⟨_, rfl⟩
              rw [← hkk] at c2
              have c1 := HQ.out i hil
              have HKK := Lib.hid hkk
              clear hkk
              by_cases k1 : kk = 1
              · have k1b : (kk != 1) = false := by simp [k1]
                clear k1
                go_wp2_with fail
                go_roundw
                case rel => exact ⟨i + 1, by omega, by go_num, by trivial⟩
                case measure => simp [intOf]; omega
              · have k1b : (kk != 1) = true := by simp [k1]
                by_cases k2 : kk = 2
                · have k2b : (kk != 2) = false := by simp [k2]
                  clear k1 k2
                  go_wp2_with fail
                  go_roundw
                  case rel => exact ⟨i + 1, by omega, by go_num, by trivial⟩
                  case measure => simp [intOf]; omega
                · have k2b : (kk != 2) = true := by simp [k2]
                  have hm : i ∈ K := HE.out.1.kp i hil (by rw [← HKK.out]; omega)
                  rw [show decide (i ∈ K) = true from decide_eq_true hm] at c1
                  clear k1 k2 hm
                  go_wp2_with fail
                  go_roundw
                  case rel => exact ⟨i + 1, by omega, by go_num, by trivial⟩
                  case measure => simp [intOf]; omega
            · obtain rfl : i = len1 := by omega
              have hil1 : ¬ (i : Int) < (i : Int) := by omega
              clear hil
              go_wp2_with fail
              go_ret
              exact ⟨rfl, HFIN.out⟩
    · have hK := hsi.lt rfl
      have hK1 : (K.length : Int) < (l : Int) := by omega
      obtain ⟨kl, hkl⟩ : ∃ kl, kl = K.length := ⟨_, rfl⟩
      have HKL := Lib.hid hkl
      rw [← hkl] at hK1 ⊢
      have hkl0 : (0 : Int) ≤ (kl : Int) := Int.natCast_nonneg _
      have HN2 := Lib.hid (show RD p Y S len0 len1 (kF z1) (bF z2 len2 len0) (vF z3 len3 len0) dat C' K W1 w4 from ⟨hpx, hsy, hsr, hda, hkz1, hg0, hg1, by
        have h1 := hsi.sub
        rw [← H.out.2, List.take_length] at h1
        exact h1.trans H.out.1.sub, fun i hi hn => hsi.keep i (by rw [← H.out.2, List.take_length]; exact H.out.1.kp i hi hn) hn⟩)
      clear hpx hsy hsr hda hkz hkz1 hg0 hg1 hsi HSC hK hkl
      go_wp2_with fail
      go_roundw
      case rel => exact ⟨rd + 1, kl, C', K, by go_num, rfl, by have := HLR.out; omega, Lib.hid ⟨HN2.out, HKL.out.symm⟩⟩
      case measure => simp only [lenOfV]; omega
end fnScanUnusedTSImportEqualsFixedPoint
end Go.Proofs.YthgcchgpplblbaaDoor
