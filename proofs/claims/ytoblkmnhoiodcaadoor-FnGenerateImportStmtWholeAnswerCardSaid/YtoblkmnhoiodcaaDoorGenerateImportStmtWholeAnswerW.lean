/- Proved here: the walk of FnGenerateImportStmtWholeAnswer. Conditions: how the arguments read, what is laid. -/
import Derived.Test.YtoblkmnhoiodcaaDoorGIR
import Derived.Test.YtoblkmnhoiodcaaDoorGIT
import Derived.WalkKit
import Derived.WalkSpells
import Derived.WalkLawsBesides
import Derived.Lib.Hide
import Derived.Lib.SliceRun
import Derived.Deep.RegionWith
import Derived.OwnWalk
import Derived.Laws.OwnMore
import Derived.BigRegion
import Derived.BigQuiet
import Derived.WideMake
import Derived.Deep.DeepCutAuto
import Derived.Deep.CutBlock
import Derived.Deep.CutRange
import Derived.MapKept
import Derived.Deep.QuietTactic
import Derived.Deep.RegionHeld3
namespace Go.Proofs.YtoblkmnhoiodcaaDoor
open Go.RowKit
set_option linter.unusedSimpArgs false
set_option linter.unusedVariables false
namespace fnGenerateImportStmtWholeAnswer
open IM IB GI
set_option maxRecDepth 100000 in
set_option maxHeartbeats 8000000 in
theorem walk (a0 : ByteArray) (a1 : Option Addr) (len1 cap1 : Nat) (z1 : List ByteArray) (a2 : Option Addr) (len2 cap2 : Nat) (z2 : List Int) (a3 : Int) (a4 : Int) (a5 : Bool) (a6 : Int) (a7 : Bool) (a8 : Int) (a9 : Int) (a10 : Int) (w : World) (w0 : a0.size ≤ maxLen) (w1 : IsStrs w a1 len1 cap1 z1) (w2 : IsRow .i32 w a2 len2 cap2 z2) (w3 : (Lit.int .i32 a3).wf = true) (w4 : (Lit.int .i32 a4).wf = true) (w6 : (Lit.int .u32 a6).wf = true) (w8 : (Lit.int .u32 a8).wf = true) (w9 : (Lit.int .i64 a9).wf = true) (w10 : (Lit.int .i64 a10).wf = true) (hg0 : w.cell? ⟨0, 0, none⟩ = some (.int .u32 4294967295)) (hg1 : w.cell? ⟨0, 1, none⟩ = some (.int .u32 4294967295)) (hL : laidMetH Tryd.prog [("unicode/utf8.acceptRanges", Rows.laid_unicode_utf8_acceptRanges), ("github.com/evanw/esbuild/internal/ast.InvalidRef", Rows.laid_github_com_evanw_esbuild_internal_ast_InvalidRef), ("unicode/utf8.first", Rows.laid_unicode_utf8_first)] w) :
    Calls Tryd.prog 3 #[.string a0, .slice a1 len1 cap1, .slice a2 len2 cap2, .int .i32 a3, .int .i32 a4, .bool a5, .int .u32 a6, .bool a7, .int .u32 a8, .int .i64 a9, .int .i64 a10] w fun e w' => e = .returned (.bool true) ∧ Below w.heap.size w w' := by
  have HT := Lib.hid (tabs hL)
  have HS := Lib.hid w1
  have HI := Lib.hid w2
  have HZ := Lib.hid (zb5 a0 a1 a2 len1 cap1 len2 cap2 z1 a3 a4 a6 a8 a9 a10 a5 a7 w w0 (rowv_strs w1) (len_strs w1).1 (len_ints w2).1 (fun i => (len_strs w1).2 i))
  have HG0 := Lib.hid hg0
  have HG1 := Lib.hid hg1
  obtain ⟨w9a, w9b⟩ := wf_i64 w9
  obtain ⟨w10a, w10b⟩ := wf_i64 w10
  obtain ⟨w6a, w6b⟩ := wf_u32 w6
  obtain ⟨w8a, w8b⟩ := wf_u32 w8
  obtain ⟨w3a, w3b⟩ := wf_i32 w3
  obtain ⟨w4a, w4b⟩ := wf_i32 w4
  clear w1 w2 w3 w4 w6 w8 w9 w10 hg0 hg1 hL w0
  go_enter Tryd.func3, Tryd.ntmps3
  go_wp2_with fail
  go_at_call 5
  refine HZ.out.mono ?_
  rintro e V ⟨b, rfl, hb, rfl⟩
  clear HZ
  cases b
  · clear hb
    go_wp2_with fail
    go_ret
    exact ⟨rfl, Below.refl _ _⟩
  obtain ⟨b1, b2, b3, b4⟩ := hb rfl
  have HB3 := Lib.hid b3
  clear hb b3
  have p0 : (0 : Int) ≤ (a0.size : Int) := Int.natCast_nonneg _
  have l0 : (0 : Int) ≤ (len1 : Int) := Int.natCast_nonneg _
  have l1 : (0 : Int) ≤ (len2 : Int) := Int.natCast_nonneg _
  have p1 : ¬ 1048576 < (a0.size : Int) := by omega
  have p2 : (a0.size : Int) ≤ 1048576 := by omega
  have p3 : (len1 : Int) ≤ 1048576 := by omega
  have p4 : (len2 : Int) ≤ 1048576 := by omega
  by_cases c1 : 65536 < (len1 : Int)
  · go_wp2_with fail
    go_ret
    exact ⟨rfl, Below.refl _ _⟩
  by_cases c2 : 65536 < (len2 : Int)
  · go_wp2_with fail
    go_ret
    exact ⟨rfl, Below.refl _ _⟩
  go_wp2_with fail
  go_at_call 6
  refine (strBytes a1 len1 cap1 z1 w (rowv_strs HS.out) (by omega) HB3.out).mono ?_
  rintro e V ⟨t, rfl, ht0, ht1, rfl⟩
  by_cases c3 : 1048576 < (a0.size : Int) + 4 * (len2 : Int) + t
  · go_wp2_with fail
    go_ret
    exact ⟨rfl, Below.refl _ _⟩
  by_cases c4 : a9 < 0
  · go_wp2_with fail
    go_ret
    exact ⟨rfl, Below.refl _ _⟩
  by_cases c5 : 65536 < a9
  · go_wp2_with fail
    go_ret
    exact ⟨rfl, Below.refl _ _⟩
  by_cases c6 : a10 < 0
  · go_wp2_with fail
    go_ret
    exact ⟨rfl, Below.refl _ _⟩
  by_cases c7 : 65536 < a10
  · go_wp2_with fail
    go_ret
    exact ⟨rfl, Below.refl _ _⟩
  obtain ⟨np, rfl⟩ : ∃ np : Nat, a9 = np := ⟨a9.toNat, by omega⟩
  obtain ⟨nr, rfl⟩ : ∃ nr : Nat, a10 = nr := ⟨a10.toNat, by omega⟩
  go_upto_region 9 with (fail)
  go_cut [110] from 99 to 109 (fun s wx => s = .bool (a5 && (a6 == 4294967295) || a7 && (a8 == 4294967295)) ∧ w = wx)
  case first =>
    cases h6 : (a6 == 4294967295) <;> cases h8 : (a8 == 4294967295) <;> cases a5 <;> cases a7
    all_goals
      have H6 := Lib.hid h6
      have H8 := Lib.hid h8
      go_wp2_with fail
      go_meet
      exact ⟨by rw [H6.out, H8.out]; rfl, rfl⟩
  case rest =>
  obtain ⟨rfl, rfl⟩ := hcut
  cases hbad : (a5 && (a6 == 4294967295) || a7 && (a8 == 4294967295))
  case true =>
    go_wp2_with fail
    go_ret
    exact ⟨rfl, Below.refl _ _⟩
  have HBAD := Lib.hid hbad
  clear hbad
  go_wp2_with fail
  go_at_call 7
  refine (cpS_any a1 len1 cap1 z1 w HS.out (by omega)).mono ?_
  rintro e W1 ⟨s1, k1, rfl, hs1, hb1⟩
  have HS1 := Lib.hid hs1
  have HB1 := Lib.hid hb1
  have HI1 := Lib.hid (rowBelow HI.out hb1)
  clear hs1 hb1
  go_wp2_with fail
  go_at_call 8
  refine (cpI_any a2 len2 cap2 z2 W1 HI1.out (by omega)).mono ?_
  rintro e W2 ⟨s2, k2, rfl, hs2, hb2⟩
  have HS2 := Lib.hid hs2
  have HB2 := Lib.hid (bel2 HB1.out hb2)
  have HSS := Lib.hid (show len1 = 0 ∨ ∃ ib cs, s1 = some ⟨ib, 0, none⟩ ∧ At W2 ib 9 cs ∧ w.heap.size ≤ ib ∧ len1 ≤ k1 ∧ ∀ i, i < len1 → cs[i]? = some (.string (z1.getD i ByteArray.empty)) from by
    rcases HS1.out with h | ⟨ib, cs, h1, h2, h3, h4, h5⟩
    · exact .inl h
    · exact .inr ⟨ib, cs, h1, h2.below hb2 h2.lt, h3, h4, h5⟩)
  clear hs2 hb2 HS1 HB1 HI1
  have hmm : ∀ W : World, (Instr.makeMap 29 (some (.int .i64 (len1 : Int)))).run Tryd.prog W = .ok (.map (some W.heap.size)) (W.alloc (.map #[] 0)) := fun W => by simp [Instr.makeMap, run_underlying Tryd.underlying29, asInt, asIntOf]
  go_wp2_with fail
  have z2w := HB2.out.size
  go_loopw [24] (fun s wr => ∃ i : Nat, s = .int .i64 i ∧ i ≤ len1 ∧ SMR z1 (locA len2 z2) 7 W2 i wr) (fun s _ => len1 - (intOf s).toNat)
  case atStart => exact ⟨0, rfl, Nat.zero_le _, MP.empty (heap_alloc_new W2 _), (Below.refl _ _).alloc (Nat.le_refl _) _⟩
  case round =>
    rename World => wr
    obtain ⟨i, rfl, hi, hmp, hbw⟩ := hrel
    by_cases hlt : i < len1
    · rcases HSS.out with h0 | ⟨ib, cs, rfl, hat, hib, hk1, hcs⟩
      · omega
      obtain ⟨zz, hzz⟩ : ∃ zz : ByteArray, zz = z1.getD i ByteArray.empty := ⟨_, rfl⟩
      have hatr := hat.below hbw hat.lt
      have x1 : wr.cell? ⟨ib, i, none⟩ = some (.string zz) := by rw [hatr.cell, hzz]; exact hcs i hlt
      have lib := hatr.lt
      have HLA := Lib.hid (fun W' (hW' : W'.heap = wr.heap) => locAt s2 len2 k2 z2 i W' (rowHeap (HS2.out.below hbw) hW') (by omega) (by omega))
      obtain ⟨lo, hlo⟩ : ∃ l, l = locA len2 z2 i := ⟨_, rfl⟩
      rw [← hlo] at HLA
      obtain ⟨o, hu, hm⟩ := upd_ms (show MP mkS wr.drew W2.heap.size _ from hmp) zz (.agg #[.int .i32 lo, .int .u32 7, .int .u32 ((i : Int) + 1)])
      obtain ⟨U, hU⟩ : ∃ U, U = mput wr.drew W2.heap.size o := ⟨_, rfl⟩
      rw [← hU] at hu hm
      have hw : IntKind.u32.wrap (IntKind.u32.wrap (i : Int) + 1) = (i : Int) + 1 := by rw [IntKind.wrap_u32, IntKind.wrap_u32]; omega
      have hu : (Instr.mapUpdate 29 (.map (some W2.heap.size)) (.string zz) (.agg #[.int .i32 lo, .int .u32 7, .int .u32 (IntKind.u32.wrap (IntKind.u32.wrap (i : Int) + 1))])).run Tryd.prog wr.drew = .ok () U := by rw [hw]; exact hu
      clear hw
      have HR := Lib.hid (show SMR z1 (locA len2 z2) 7 W2 (i + 1) U from ⟨by
        show MP mkS U W2.heap.size (upd _ (z1.getD i ByteArray.empty) (.agg #[.int .i32 (locA len2 z2 i), .int .u32 7, .int .u32 ((i : Int) + 1)]))
        rw [← hzz, ← hlo]; exact hm, by rw [hU]; exact mput_below hbw.drew _ _ (Nat.le_refl _)⟩)
      have i0 : (0 : Int) ≤ (i : Int) := Int.natCast_nonneg _
      have i1 : (i : Int) < (len1 : Int) := by omega
      have i2 : (len1 : Int) ≤ 65536 := by omega
      clear hmp hbw hat hatr hcs hm hU hlo hzz
      go_wp2_with fail
      go_region_with ((go_at_call 9; refine (HLA.out wr.drew rfl).mono ?_; rintro e w' ⟨rfl, rfl⟩))
      all_goals
        go_wp2_with fail
        go_roundw
        case rel => exact ⟨i + 1, by go_num, by omega, HR.out⟩
        case measure => simp [intOf]; omega
    · obtain rfl : len1 = i := by omega
      have HMP := Lib.hid hmp
      have HBW := Lib.hid (HB2.out.trans (hbw.mono z2w))
      have HBW2 := Lib.hid hbw
      clear hmp hbw hmm hlt
      have z3 := HBW2.out.size
      have l3 : 3 < w.heap.size := World.block_lt_of_cell? _ _ (HT.out.2 0 (by omega)).1
      have lms : W2.heap.size < wr.heap.size := HMP.out.lt
      have i1 : ¬ (len1 : Int) < (len1 : Int) := by omega
      have hmk1 := made (P := Tryd.prog) (t := 37) (e := 55) Tryd.underlying37 info55 wr np (by omega) (by omega)
      obtain ⟨W4, hW4⟩ : ∃ W, W = wr.alloc (.cells (madeCells (Value.agg #[.slice none 0 0, .slice none 0 0, .slice none 0 0, .slice none 0 0, .map none, .map none, .map none, .slice none 0 0, .bool false, .bool false, .bool false]).cells (np * 11)) 55) := ⟨_, rfl⟩
      rw [← hW4] at hmk1
      have hmk2 := made (P := Tryd.prog) (t := 38) (e := 77) Tryd.underlying38 AI.info77 W4 nr (by omega) (by omega)
      obtain ⟨W5, hW5⟩ : ∃ W, W = W4.alloc (.cells (madeCells (Value.agg #[.pointer none, .pointer none, .string ⟨#[]⟩, .string ⟨#[]⟩, .string ⟨#[]⟩, .string ⟨#[]⟩, .int .u8 0, .int .i32 0, .int .i32 0, .int .i32 0, .int .u32 0, .int .u32 0, .int .u16 0, .int .u8 0, .int .u8 0]).cells (nr * 15)) 77) := ⟨_, rfl⟩
      rw [← hW5] at hmk2
      obtain ⟨PC, hPC⟩ : ∃ PC, PC = madeCells (Value.agg #[.slice none 0 0, .slice none 0 0, .slice none 0 0, .slice none 0 0, .map none, .map none, .map none, .slice none 0 0, .bool false, .bool false, .bool false]).cells (np * 11) := ⟨_, rfl⟩
      obtain ⟨RC, hRC⟩ : ∃ RC, RC = madeCells (Value.agg #[.pointer none, .pointer none, .string ⟨#[]⟩, .string ⟨#[]⟩, .string ⟨#[]⟩, .string ⟨#[]⟩, .int .u8 0, .int .i32 0, .int .i32 0, .int .i32 0, .int .u32 0, .int .u32 0, .int .u16 0, .int .u8 0, .int .u8 0]).cells (nr * 15) := ⟨_, rfl⟩
      rw [← hPC] at hW4
      rw [← hRC] at hW5
      have z4 : W4.heap.size = wr.heap.size + 1 := by rw [hW4]; simp
      have hb5 : Below wr.heap.size wr W5 := by rw [hW5, hW4]; exact ((Below.refl _ _).alloc (Nat.le_refl _) _).alloc (by simp) _
      have OP := Lib.hid (show W5.ownsRow w.heap.size 55 11 (.slice (some ⟨wr.heap.size, 0, none⟩) np np) np PC.toList from by
        rw [hW5]
        refine World.ownsRow.alloc ?_ _
        rw [hW4]
        exact World.ownsRow_lit wr PC np (by omega) (by unfold maxLen; omega) (by rw [hPC]; simp [size_madeCells, Value.cells]))
      have OR := Lib.hid (show W5.ownsRow w.heap.size 77 15 (.slice (some ⟨W4.heap.size, 0, none⟩) nr nr) nr RC.toList from by
        rw [hW5]
        exact World.ownsRow_lit W4 RC nr (by omega) (by unfold maxLen; omega) (by rw [hRC]; simp [size_madeCells, Value.cells]))
      have HPC := Lib.hid hPC
      have HB5 := Lib.hid (HBW.out.trans (hb5.mono (by omega)))
      have HB5r := Lib.hid hb5
      have z5 : W4.heap.size < W5.heap.size := by rw [hW5]; simp
      have z5w : w.heap.size ≤ W5.heap.size := HB5.out.size
      have HC10 := Lib.hid (newP w.heap.size nr (some ⟨W4.heap.size, 0, none⟩) nr RC.toList W5 z5w OR.out (kept HB5.out HG0.out) (kept HB5.out HG1.out))
      have z4' : wr.heap.size < W4.heap.size := by omega
      clear hW4 hW5 hPC hRC hb5 z4
      go_wp2_with fail
      go_at_call 10
      refine HC10.out.mono ?_
      rintro e W6 ⟨pb, sb, mi, mn, rfl, hgs, hb6, hq1, hq2, hq3, hq4⟩
      have HGS := Lib.hid hgs
      have HB6 := Lib.hid hb6
      have z6 := hb6.size
      clear hgs hb6 hmk1 hmk2
      go_upto_if 144 with (fail)
      go_cut [28, 29] from 144 to 145 (fun s28 _ wx => OPT a5 a6 W6 s28 wx)
      case first =>
        cases a5
        · go_wp2_with fail
          go_meet
          exact ⟨none, rfl, rfl, (fun p h => by cases h), Below.refl _ _⟩
        · go_wp2_with fail
          go_meet
          exact ⟨some (W6.heap.size, a6), rfl, rfl, (fun p h => by cases h; exact ⟨rfl, At.new W6 24 _, Nat.le_refl _⟩), (Below.refl _ _).alloc (Nat.le_refl _) _⟩
      case rest =>
      rename World => W7
      obtain ⟨o1, rfl, ho1, hp1, hb7⟩ := hcut
      have HO1 := Lib.hid hp1
      have HE1 := Lib.hid ho1
      have HB7 := Lib.hid hb7
      have z7 := hb7.size
      clear hp1 hb7 ho1
      go_upto_if 146 with (fail)
      go_cut [30, 31] from 146 to 147 (fun s30 _ wx => OPT a7 a8 W7 s30 wx)
      case first =>
        cases a7
        · go_wp2_with fail
          go_meet
          exact ⟨none, rfl, rfl, (fun p h => by cases h), Below.refl _ _⟩
        · go_wp2_with fail
          go_meet
          exact ⟨some (W7.heap.size, a8), rfl, rfl, (fun p h => by cases h; exact ⟨rfl, At.new W7 24 _, Nat.le_refl _⟩), (Below.refl _ _).alloc (Nat.le_refl _) _⟩
      case rest =>
      rename World => W8
      obtain ⟨o2, rfl, ho2, hp2, hb8⟩ := hcut
      have z8 := hb8.size
      have hlt6 := HGS.out.lt
      have hb68 := HB7.out.trans (hb8.mono z7)
      have hb58 := HB6.out.trans (hb68.mono z6)
      have hbr8 := HB5r.out.trans (hb58.mono HB5r.out.size)
      have hb28 := HBW2.out.trans (hbr8.mono z3)
      have HB8 := Lib.hid (HB5.out.trans (hb58.mono HB5.out.size))
      have hBpb := HGS.out.bp
      have HIN := Lib.hid (show IN w.heap.size pb sb mi mn W2.heap.size len1 np k1 np (smf z1 (locA len2 z2) 7 len1) z1 s1 (some ⟨wr.heap.size, 0, none⟩) PC.toList o1 o2 W8 from
        { mp := HMP.out.of_block (hbr8.block _ HMP.out.lt)
          nm := by simp; omega
          rs := by
            rcases HSS.out with h | ⟨ib, cs, h1, h2, h3, h4, h5⟩
            · exact .inl h
            · have := h2.lt
              exact .inr ⟨ib, cs, h1, h2.below hb28 h2.lt, by simp; omega, h4, h5⟩
          pt := ownKeep OP.out (fun k cs ho ha => hb58.block k ha.lt)
          np' := fun k hk => by simp [Value.ownBlock] at hk; simp; omega
          p1 := fun p hp => by
            obtain ⟨h1, h2, h3⟩ := HO1.out p hp
            rw [h1]
            exact ⟨h2.below hb8 h2.lt, by simp; omega⟩
          p2 := fun p hp => by
            obtain ⟨h1, h2, h3⟩ := hp2 p hp
            rw [h1]
            exact ⟨h2, by simp; omega⟩
          tb := tabsB HT.out HB8.out (by omega) (by omega)
          g0 := kept HB8.out HG0.out
          g1 := kept HB8.out HG1.out
          b3 := l3 })
      have HE2 := Lib.hid ho2
      have HO2 := Lib.hid hp2
      have HG8 := Lib.hid (HGS.out.below hb68)
      clear hp2 hb8 ho2 hb68 hb58 hbr8 hb28 HB7 HGS HB6 HB5 HB5r OP OR
      obtain ⟨L, hLd⟩ : ∃ L, L = smf z1 (locA len2 z2) 7 len1 := ⟨_, rfl⟩
      have HLD := Lib.hid hLd
      rw [← hLd] at HIN
      have hLV : ∀ p ∈ L, LV p.2 := by rw [hLd]; exact smf_LV _ _ _ _
      have HLV := Lib.hid hLV
      have HGC := Lib.hid (genW w.heap.size pb sb mi mn nr 0 0 np len1 W2.heap.size RC.toList [] [] PC.toList [] [] L z1 a0 a3 a4 s1 k1 (some ⟨wr.heap.size, 0, none⟩) np o1 o2 W8 HG8.out HIN.out hLV HB8.out.size b1 (by omega) (by omega) (by omega) (by omega) (by omega))
      have KEEP := Lib.hid (show w.heap.size ≤ W8.heap.size ∧ pb < W8.heap.size ∧ sb < W8.heap.size ∧ mi < W8.heap.size ∧ mn < W8.heap.size from ⟨HB8.out.size, HG8.out.lt.1, HG8.out.lt.2.1, HG8.out.lt.2.2.1, HG8.out.lt.2.2.2⟩)
      clear hLd hLV HMP HBW HBW2 HSS HC10 z3 lms z5 z5w z6 z7 z8 z2w hlt6 hBpb hi
      go_wp2_with fail
      go_at_call 11
      refine HGC.out.mono ?_
      rintro e W9 ⟨st', NM, D, tb, ib, q, db, g, cap, rfl, hloc, hDs, hDOK, hEnd⟩
      have HDS := Lib.hid hDs
      have HDOK := Lib.hid hDOK
      have HEND := Lib.hid hEnd
      have HLOC := Lib.hid (show (a4 = 0 ∧ 0 < len1 → st' = minL L z1 (len1 - 1)) ∧ (¬ (a4 = 0 ∧ 0 < len1) → st' = a3) from by rw [HLD.out] at hloc ⊢; exact loc_law hloc)
      have kq9 := hEnd.2.2.2.2.2.2.1
      have hb9 := hEnd.2.2.2.2.2.2.2.1
      have HM9 := Lib.hid (show MP mkS W9 W2.heap.size L from kq9.map HIN.out.mp HIN.out.nm)
      have HS9 := Lib.hid (show len1 = 0 ∨ ∃ ib cs, s1 = some ⟨ib, 0, none⟩ ∧ At W9 ib 9 cs ∧ ∀ i, i < len1 → cs[i]? = some (.string (z1.getD i ByteArray.empty)) from by
        rcases HIN.out.rs with h | ⟨ib, cs, h1, h2, h3, h4, h5⟩
        · exact .inl h
        · exact .inr ⟨ib, cs, h1, kq9.at h2 h3 (by decide), h5⟩)
      have HB9 := Lib.hid (show Below w.heap.size w W9 from HB8.out.trans hb9)
      have z9 := hb9.size
      clear hDs hDOK hEnd hloc kq9 hb9 HGC HB8 HG8 HIN
      go_upto_region 31 with (fail)
      go_cut [170] from 164 to 169 (fun s wx => s = .bool (a4 == 0 && decide (0 < len1)) ∧ W9 = wx)
      case first =>
        cases hr : (a4 == 0)
        · have HR := Lib.hid hr
          go_wp2_with fail
          go_meet
          exact ⟨by rw [HR.out]; rfl, rfl⟩
        · by_cases hm : 0 < len1
          · have hm' : 0 < (len1 : Int) := by omega
            have HD := Lib.hid (show decide (0 < len1) = true from by simpa using hm)
            have HR := Lib.hid hr
            go_wp2_with fail
            go_meet
            exact ⟨by rw [HD.out, HR.out]; rfl, rfl⟩
          · have hm' : ¬ 0 < (len1 : Int) := by omega
            have HD := Lib.hid (show decide (0 < len1) = false from by simpa using hm)
            have HR := Lib.hid hr
            go_wp2_with fail
            go_meet
            exact ⟨by rw [HD.out, HR.out]; rfl, rfl⟩
      case rest =>
      obtain ⟨rfl, rfl⟩ := hcut
      obtain ⟨cnd, hcnd⟩ : ∃ c, c = (a4 == 0 && decide (0 < len1)) := ⟨_, rfl⟩
      rw [← hcnd]
      have HCND := Lib.hid hcnd
      clear hcnd
      go_upto_if 170 with (fail)
      go_cut [34, 35, 36] from 171 to 195 (fun s34 _ _ wx => s34 = .int .i32 st' ∧ W9 = wx)
      case first =>
        have hlook : ∀ zz : ByteArray, ∃ l s j : Int, lk L zz = .agg #[.int .i32 l, .int .u32 s, .int .u32 j] ∧ locOf (lk L zz) = l ∧ (Instr.lookup 29 (.map (some W2.heap.size)) (.string zz) false).run Tryd.prog W9 = .ok (.agg #[.int .i32 l, .int .u32 s, .int .u32 j]) W9 := fun zz => by
          obtain ⟨l, s, j, hv⟩ := lk_LV HLV.out zz
          refine ⟨l, s, j, hv, by rw [hv]; rfl, ?_⟩
          have h := look_ms HM9.out zz false
          rw [show (IM.look L zz).getD (Value.agg #[.int .i32 0, .int .u32 0, .int .u32 0]) = lk L zz from rfl, hv] at h
          exact h
        have HLK := Lib.hid hlook
        clear hlook
        cases cnd
        case true =>
          have HR := Lib.hid (show a4 = 0 from by have h := HCND.out; simp at h; exact h.1)
          have hm : 0 < len1 := by have h := HCND.out; simp at h; exact h.2
          · have hm' : 0 < (len1 : Int) := by omega
            have HST := Lib.hid (HLOC.out.1 ⟨HR.out, hm⟩)
            rcases HS9.out with h0 | ⟨xb, cx, rfl, hxa, hxs⟩
            · omega
            obtain ⟨l, s, j, hv, hl, hk⟩ := HLK.out (z1.getD 0 ByteArray.empty)
            obtain ⟨zz, hzz⟩ : ∃ zz, zz = z1.getD 0 ByteArray.empty := ⟨_, rfl⟩
            have x1 : W9.cell? ⟨xb, 0, none⟩ = some (.string zz) := by rw [hxa.cell, hzz]; exact hxs 0 hm
            rw [← hzz] at hk hv hl
            have HL0 := Lib.hid (show minL L z1 0 = l from by show locOf (lk L (z1.getD 0 ByteArray.empty)) = l; rw [← hzz]; exact hl)
            have HXA := Lib.hid hxa
            have HXS := Lib.hid hxs
            clear hxa hxs hv hl hzz
            go_wp2_with fail
            go_loop [34, 35] (fun t i => ∃ k : Nat, k + 1 ≤ len1 ∧ i = .int .i64 ((k + 1 : Nat) : Int) ∧ t = .int .i32 (minL L z1 k)) (fun _ i => len1 - (intOf i).toNat)
            case atStart => exact ⟨0, by omega, rfl, by rw [HL0.out]⟩
            case round =>
              obtain ⟨k, hk1, rfl, rfl⟩ := hrel
              obtain ⟨i, hi⟩ : ∃ i, i = k + 1 := ⟨_, rfl⟩
              rw [← hi]
              by_cases hlt : i < len1
              · obtain ⟨l2, s2', j2, hv2, hl2, hk2⟩ := HLK.out (z1.getD i ByteArray.empty)
                obtain ⟨z2', hz2⟩ : ∃ zz, zz = z1.getD i ByteArray.empty := ⟨_, rfl⟩
                have x2 : W9.cell? ⟨xb, i, none⟩ = some (.string z2') := by rw [HXA.out.cell, hz2]; exact HXS.out i hlt
                rw [← hz2] at hk2 hl2
                have HL2 := Lib.hid (show minL L z1 (k + 1) = if l2 < minL L z1 k then l2 else minL L z1 k from by
                  show (if locOf (lk L (z1.getD (k + 1) ByteArray.empty)) < minL L z1 k then locOf (lk L (z1.getD (k + 1) ByteArray.empty)) else minL L z1 k) = _
                  rw [← hi, ← hz2, hl2])
                have HI2 := Lib.hid hi
                have i0 : (0 : Int) ≤ (i : Int) := Int.natCast_nonneg _
                have i1 : (i : Int) < (len1 : Int) := by omega
                obtain ⟨mv, hmv⟩ : ∃ mv, mv = minL L z1 k := ⟨_, rfl⟩
                rw [← hmv] at HL2
                rw [← hmv]
                clear hv2 hl2 hz2 hk1 hi hmv hk x1
                by_cases hc : l2 < mv
                · have hc' : decide (l2 < mv) = true := by simpa using hc
                  go_wp2_with fail
                  go_round
                  case rel => exact ⟨i, by omega, by go_num, by rw [HI2.out, HL2.out, if_pos hc]⟩
                  case measure => simp [intOf]; omega
                · have hc' : decide (l2 < mv) = false := by simpa using hc
                  go_wp2_with fail
                  go_round
                  case rel => exact ⟨i, by omega, by go_num, by rw [HI2.out, HL2.out, if_neg hc]⟩
                  case measure => simp [intOf]; omega
              · have e : ¬ (i : Int) < (len1 : Int) := by omega
                have HKK := Lib.hid (show len1 - 1 = k from by omega)
                clear hk x1 hk1 hi
                go_wp2_with fail
                go_meet
                exact ⟨by rw [HST.out, HKK.out], rfl⟩
        case false =>
          have HST := Lib.hid (HLOC.out.2 (fun h => by have h2 := HCND.out; simp [h.1, h.2] at h2))
          go_wp2_with fail
          go_meet
          exact ⟨by rw [HST.out], rfl⟩
      case rest =>
      obtain ⟨rfl, rfl⟩ := hcut
      clear HLOC
      go_wp2_with fail
      obtain ⟨W10, hW10⟩ : ∃ W, W = W9.alloc (.cells #[.int .u32 0, .int .u32 0] 34) := ⟨_, rfl⟩
      have hb910 : Below W9.heap.size W9 W10 := by rw [hW10]; exact (Below.refl _ _).alloc (Nat.le_refl _) _
      have AR := Lib.hid (show At W10 W9.heap.size 34 #[.int .u32 0, .int .u32 0] from by rw [hW10]; exact At.new W9 34 _)
      rw [← hW10]
      clear hW10
      have HEND10 := Lib.hid (endAt HEND.out hb910)
      have HM10 := Lib.hid (show MP mkS W10 W2.heap.size L from HM9.out.of_block (hb910.block _ HM9.out.lt))
      have HS10 := Lib.hid (show len1 = 0 ∨ ∃ ib cs, s1 = some ⟨ib, 0, none⟩ ∧ At W10 ib 9 cs ∧ ∀ i, i < len1 → cs[i]? = some (.string (z1.getD i ByteArray.empty)) from by
        rcases HS9.out with h | ⟨ib, cs, h1, h2, h3⟩
        · exact .inl h
        · exact .inr ⟨ib, cs, h1, h2.below hb910 h2.lt, h3⟩)
      have HB10 := Lib.hid (HB9.out.trans (hb910.mono HB9.out.size))
      have z10 := hb910.size
      have l9 := AR.out.lt
      clear hb910 HEND HM9 HS9 HB9
      obtain ⟨hown, hgn, htb, hib, hdb, hgs, _, _, q1, q2, q3⟩ := HEND10.out
      have HROW := Lib.hid (fun i (hi : i < (np + 1) * 11) => World.ownsRow.cellAt hown i hi)
      have HPCL := Lib.hid (show PC.toList.length = np * 11 from by rw [HPC.out]; simp [size_madeCells, Value.cells])
      have lg : g < W10.heap.size := (World.ownsRow.lt hown g rfl).2
      have HTB := Lib.hid htb
      have HIB := Lib.hid hib
      have HDB := Lib.hid hdb
      have HGS := Lib.hid hgs
      clear hown hgn htb hib hdb hgs
      have np0 : (0 : Int) ≤ (np : Int) := Int.natCast_nonneg _
      have np1 : (np : Int) ≤ 65536 := by omega
      go_loop [38] (fun s => ∃ k : Nat, s = .int .i64 k ∧ k ≤ np) (fun s => np - (intOf s).toNat)
      case atStart => exact ⟨0, rfl, Nat.zero_le _⟩
      case round =>
        obtain ⟨k, rfl, hk⟩ := hrel
        by_cases hlt : k < np
        · have r3 : W10.cell? ⟨g, k * 11 + 3, none⟩ = some (.slice none 0 0) := by rw [HROW.out _ (by omega), List.getElem?_append_left (by rw [HPCL.out]; omega)]; exact pcAt HPC.out hlt (by omega)
          have r0 : W10.cell? ⟨g, k * 11, none⟩ = some (.slice none 0 0) := by rw [HROW.out _ (by omega), List.getElem?_append_left (by rw [HPCL.out]; omega)]; exact pcAt (j := 0) HPC.out hlt (by omega)
          have r2 : W10.cell? ⟨g, k * 11 + 2, none⟩ = some (.slice none 0 0) := by rw [HROW.out _ (by omega), List.getElem?_append_left (by rw [HPCL.out]; omega)]; exact pcAt HPC.out hlt (by omega)
          have i0 : (0 : Int) ≤ (k : Int) := Int.natCast_nonneg _
          have i1 : (k : Int) < (np : Int) := by omega
          have i2 : (k : Int) < (np : Int) + 1 := by omega
          go_wp2_with fail
          go_round
          case rel => exact ⟨k + 1, by go_num, by omega⟩
          case measure => simp [intOf]; omega
        · have e : ¬ (k : Int) < (np : Int) := by omega
          obtain rfl : np = k := by omega
          have HX := Lib.hid (fun j (hj : j < 11) => (HROW.out (np * 11 + j) (by omega)).trans (by rw [List.getElem?_append_right (by rw [HPCL.out]; omega), HPCL.out, Nat.add_sub_cancel_left]))
          have x0 : W10.cell? ⟨g, np * 11, none⟩ = some (.slice (some ⟨tb, 0, none⟩) 1 1) := HX.out 0 (by omega)
          have x1 : W10.cell? ⟨g, np * 11 + 1, none⟩ = some (.slice none 0 0) := HX.out 1 (by omega)
          have x2 : W10.cell? ⟨g, np * 11 + 2, none⟩ = some (.slice (some ⟨ib, 0, none⟩) 1 1) := HX.out 2 (by omega)
          have x3 : W10.cell? ⟨g, np * 11 + 3, none⟩ = some (.slice (some ⟨db, 0, none⟩) (len1 + 1) (len1 + 1)) := HX.out 3 (by omega)
          have x4 : W10.cell? ⟨g, np * 11 + 4, none⟩ = some (.map none) := HX.out 4 (by omega)
          have x5 : W10.cell? ⟨g, np * 11 + 5, none⟩ = some (.map none) := HX.out 5 (by omega)
          have x6 : W10.cell? ⟨g, np * 11 + 6, none⟩ = some (.map none) := HX.out 6 (by omega)
          have x7 : W10.cell? ⟨g, np * 11 + 7, none⟩ = some (.slice none 0 0) := HX.out 7 (by omega)
          have x8 : W10.cell? ⟨g, np * 11 + 8, none⟩ = some (.bool false) := HX.out 8 (by omega)
          have x9 : W10.cell? ⟨g, np * 11 + 9, none⟩ = some (.bool false) := HX.out 9 (by omega)
          have x10 : W10.cell? ⟨g, np * 11 + 10, none⟩ = some (.bool false) := HX.out 10 (by omega)
          have i1 : (np : Int) < (np : Int) + 1 := by omega
          have m1 : ((len1 : Int) + 1 != 1 + (len1 : Int)) = false := by rw [Int.add_comm]; simp
          clear HROW hk e
          go_wp2_with fail
          obtain ⟨W11, hW11⟩ : ∃ W, W = W10.alloc (.cells #[.slice (some ⟨tb, 0, none⟩) 1 1, .slice none 0 0, .slice (some ⟨ib, 0, none⟩) 1 1, .slice (some ⟨db, 0, none⟩) (len1 + 1) (len1 + 1), .map none, .map none, .map none, .slice none 0 0, .bool false, .bool false, .bool false] 55) := ⟨_, rfl⟩
          have hb11 : Below W10.heap.size W10 W11 := by rw [hW11]; exact (Below.refl _ _).alloc (Nat.le_refl _) _
          have AL := At.new W10 55 #[.slice (some ⟨tb, 0, none⟩) 1 1, .slice none 0 0, .slice (some ⟨ib, 0, none⟩) 1 1, .slice (some ⟨db, 0, none⟩) (len1 + 1) (len1 + 1), .map none, .map none, .map none, .slice none 0 0, .bool false, .bool false, .bool false]
          rw [← hW11] at AL
          rw [← hW11]
          have z11 := hb11.size
          have AR1 := AR.out.below hb11 l9
          have DB1 := HDB.out.below hb11 HDB.out.lt
          have y0 : W11.cell? ⟨W10.heap.size, 3, none⟩ = some (.slice (some ⟨db, 0, none⟩) (len1 + 1) (len1 + 1)) := by rw [AL.cell]; rfl
          have y1 : W11.cell? ⟨db, 0, none⟩ = some (.int .u32 0) := by rw [DB1.cell]; exact HDOK.out.1
          have y2 : W11.cell? ⟨db, 1, none⟩ = some (.int .u32 0) := by rw [DB1.cell]; exact HDOK.out.2.1
          have y3 : W11.cell? ⟨db, 2, none⟩ = some (.bool true) := by rw [DB1.cell]; exact HDOK.out.2.2.1
          have y4 : W11.cell? ⟨W9.heap.size, 0, none⟩ = some (.int .u32 0) := by rw [AR1.cell]; rfl
          have y5 : W11.cell? ⟨W9.heap.size, 1, none⟩ = some (.int .u32 0) := by rw [AR1.cell]; rfl
          have HAL := Lib.hid AL
          have HB11 := Lib.hid hb11
          have i2 : (0 : Int) < (len1 : Int) + 1 := by omega
          clear x0 x1 x2 x3 x4 x5 x6 x7 x8 x9 x10 m1 HX hW11 hb11 AL AR1 DB1 i1
          go_quiet (fail)
          obtain ⟨W12, hW12⟩ : ∃ W, W = W11.drewN nq := ⟨_, rfl⟩
          rw [← hW12]
          have HB12 := Lib.hid (show Below W10.heap.size W10 W12 from by rw [hW12]; exact below_drewN HB11.out nq)
          have HAL2 := Lib.hid (show At W12 W10.heap.size 55 #[.slice (some ⟨tb, 0, none⟩) 1 1, .slice none 0 0, .slice (some ⟨ib, 0, none⟩) 1 1, .slice (some ⟨db, 0, none⟩) (len1 + 1) (len1 + 1), .map none, .map none, .map none, .slice none 0 0, .bool false, .bool false, .bool false] from by rw [hW12]; exact HAL.out)
          have z12 := HB12.out.size
          have l12 := HAL2.out.lt
          clear hW12 y0 y1 y2 y3 y4 y5 HAL HB11 z11
          go_wp2_with fail
          go_loopw [40] (fun s wq => ∃ k : Nat, s = .int .i64 k ∧ k ≤ len1 ∧ Below W12.heap.size W12 wq) (fun s _ => len1 - (intOf s).toNat)
          case atStart => exact ⟨0, rfl, Nat.zero_le _, Below.refl _ _⟩
          case round =>
            rename World => wq
            obtain ⟨k, rfl, hk, hbq⟩ := hrel
            by_cases hlt : k < len1
            · rcases HS10.out with h0 | ⟨xb, cx, rfl, hxa, hxs⟩
              · omega
              have hb10q := HB12.out.trans (hbq.mono z12)
              obtain ⟨zz, hzz⟩ : ∃ zz, zz = z1.getD k ByteArray.empty := ⟨_, rfl⟩
              obtain ⟨l, s, j, hv⟩ := lk_LV HLV.out zz
              obtain ⟨d0, d1, d2⟩ := HDOK.out.2.2.2 k hlt
              rw [← hzz, hv] at d0 d1
              have d0 : D[(k + 1) * 3]? = some (.int .u32 s) := d0
              have d1 : D[(k + 1) * 3 + 1]? = some (.int .u32 j) := d1
              have DBq := HDB.out.below hb10q HDB.out.lt
              obtain ⟨V, hV⟩ : ∃ V, V = wq.alloc (.cells #[.int .u32 s, .int .u32 j, .bool true] 57) := ⟨_, rfl⟩
              have hbqV : Below wq.heap.size wq V := by rw [hV]; exact (Below.refl _ _).alloc (Nat.le_refl _) _
              have aV : At V wq.heap.size 57 #[.int .u32 s, .int .u32 j, .bool true] := by rw [hV]; exact At.new wq 57 _
              have x0 : wq.cell? ⟨W10.heap.size, 3, none⟩ = some (.slice (some ⟨db, 0, none⟩) (len1 + 1) (len1 + 1)) := by rw [(HAL2.out.below hbq l12).cell]; rfl
              have x1 : wq.cell? ⟨db, (k + 1) * 3, none⟩ = some (.int .u32 s) := by rw [DBq.cell]; exact d0
              have x2 : wq.cell? ⟨db, (k + 1) * 3 + 1, none⟩ = some (.int .u32 j) := by rw [DBq.cell]; exact d1
              have x3 : wq.cell? ⟨db, (k + 1) * 3 + 2, none⟩ = some (.bool true) := by rw [DBq.cell]; exact d2
              have x4 : V.cell? ⟨xb, k, none⟩ = some (.string zz) := by rw [((hxa.below hb10q hxa.lt).below hbqV (hxa.below hb10q hxa.lt).lt).cell, hzz]; exact hxs k hlt
              have x5 : V.cell? ⟨wq.heap.size, 0, none⟩ = some (.int .u32 s) := by rw [aV.cell]; rfl
              have x6 : V.cell? ⟨wq.heap.size, 1, none⟩ = some (.int .u32 j) := by rw [aV.cell]; rfl
              have x7 : V.cell? ⟨wq.heap.size, 2, none⟩ = some (.bool true) := by rw [aV.cell]; rfl
              have hm : MP mkS V W2.heap.size L := HM10.out.of_block ((hbqV.block _ (Nat.lt_of_lt_of_le HM10.out.lt hb10q.size)).trans (hb10q.block _ HM10.out.lt))
              have hlook : ∀ n, (Instr.lookup 29 (.map (some W2.heap.size)) (.string zz) false).run Tryd.prog (V.drewN n) = .ok (.agg #[.int .i32 l, .int .u32 s, .int .u32 j]) (V.drewN n) := fun n => by
                have h := look_ms (show MP mkS (V.drewN n) W2.heap.size L from hm) zz false
                rw [show (IM.look L zz).getD (Value.agg #[.int .i32 0, .int .u32 0, .int .u32 0]) = lk L zz from rfl, hv] at h
                exact h
              have HBV := Lib.hid (hbq.trans (hbqV.mono hbq.size))
              have HVe := Lib.hid hV
              have i0 : (0 : Int) ≤ (k : Int) := Int.natCast_nonneg _
              have i1 : (k : Int) < (len1 : Int) := by omega
              have i3 : (k : Int) + 1 < (len1 : Int) + 1 := by omega
              have i4 : (0 : Int) ≤ (k : Int) + 1 := by omega
              clear hxa hxs hb10q hbqV hzz hv d0 d1 d2 DBq hV aV hm hbq
              go_wp2_with fail
              rw [← HVe.out]
              go_quiet (fail)
              go_wp2_with fail
              go_roundw
              case rel => exact ⟨k + 1, by go_num, by omega, below_drewN HBV.out _⟩
              case measure => simp [intOf]; omega
            · have e : ¬ (k : Int) < (len1 : Int) := by omega
              have HBQ := Lib.hid (HB12.out.trans (hbq.mono z12))
              have HAQ := Lib.hid (HAL2.out.below hbq l12)
              have zq := hbq.size
              clear hbq hk hlt
              have hb10q := HBQ.out
              have GSQ := Lib.hid (HGS.out.below hb10q)
              have TBQ := HTB.out.below hb10q HTB.out.lt
              have IBQ := HIB.out.below hb10q HIB.out.lt
              obtain ⟨rg, rc, y1, y2, y3, y4, _, y6, _, _, _⟩ := recStep GSQ.out
              have HXL := Lib.hid (show RC.toList.length = nr * 15 from by rw [List.length_append] at y4; simp [recOf] at y4; simp; omega)
              have HRX := Lib.hid (fun j (hj : j < 15) => (y3 (nr * 15 + j) (by omega)).trans (by rw [List.getElem?_append_right (by rw [HXL.out]; omega), HXL.out, Nat.add_sub_cancel_left]))
              have HV1 := Lib.hid (fun W => validOf (W := W) HE1.out (fun p hp => (HO1.out p hp).1) w6a w6b (show (a5 && a6 == 4294967295) = false from by have h := HBAD.out; cases hx : (a5 && a6 == 4294967295) <;> simp [hx] at h ⊢))
              have HV2 := Lib.hid (fun W => validOf (W := W) HE2.out (fun p hp => (HO2.out p hp).1) w8a w8b (show (a7 && a8 == 4294967295) = false from by have h := HBAD.out; cases hx : (a7 && a8 == 4294967295) <;> simp [hx] at h ⊢))
              have x2 : wq.cell? ⟨W10.heap.size, 2, none⟩ = some (.slice (some ⟨ib, 0, none⟩) 1 1) := by rw [HAQ.out.cell]; rfl
              have x0 : wq.cell? ⟨W10.heap.size, 0, none⟩ = some (.slice (some ⟨tb, 0, none⟩) 1 1) := by rw [HAQ.out.cell]; rfl
              have x3 : wq.cell? ⟨ib, 0, none⟩ = some (.int .u32 (nr : Int)) := by rw [IBQ.cell]; rfl
              have x4 : wq.cell? ⟨tb, 0, none⟩ = some (.iface 212 (.pointer (some ⟨q, 0, none⟩))) := by rw [TBQ.cell]; rfl
              have x5 : wq.cell? ⟨tb, 1, none⟩ = some (.int .i32 st') := by rw [TBQ.cell]; rfl
              have nr0 : (0 : Int) ≤ (nr : Int) := Int.natCast_nonneg _
              have nr1 : (nr : Int) < (nr : Int) + 1 := by omega
              have r0 : wq.cell? ⟨rg, nr * 15, none⟩ = some (.pointer none) := HRX.out 0 (by omega)
              have r1 : wq.cell? ⟨rg, nr * 15 + 1, none⟩ = some (.pointer none) := HRX.out 1 (by omega)
              have r2 : wq.cell? ⟨rg, nr * 15 + 2, none⟩ = some (.string a0) := HRX.out 2 (by omega)
              have r3 : wq.cell? ⟨rg, nr * 15 + 3, none⟩ = some (.string ⟨#[]⟩) := HRX.out 3 (by omega)
              have r4 : wq.cell? ⟨rg, nr * 15 + 4, none⟩ = some (.string ⟨#[]⟩) := HRX.out 4 (by omega)
              have r5 : wq.cell? ⟨rg, nr * 15 + 5, none⟩ = some (.string ⟨#[]⟩) := HRX.out 5 (by omega)
              have r6 : wq.cell? ⟨rg, nr * 15 + 6, none⟩ = some (.int .u8 0) := HRX.out 6 (by omega)
              have r7 : wq.cell? ⟨rg, nr * 15 + 7, none⟩ = some (.int .i32 st') := HRX.out 7 (by omega)
              have r8 : wq.cell? ⟨rg, nr * 15 + 8, none⟩ = some (.int .i32 a4) := HRX.out 8 (by omega)
              have r9 : wq.cell? ⟨rg, nr * 15 + 9, none⟩ = some (.int .i32 0) := HRX.out 9 (by omega)
              have r10 : wq.cell? ⟨rg, nr * 15 + 10, none⟩ = some (.int .u32 (ix o1)) := HRX.out 10 (by omega)
              have r11 : wq.cell? ⟨rg, nr * 15 + 11, none⟩ = some (.int .u32 (ix o2)) := HRX.out 11 (by omega)
              have r12 : wq.cell? ⟨rg, nr * 15 + 12, none⟩ = some (.int .u16 0) := HRX.out 12 (by omega)
              have r13 : wq.cell? ⟨rg, nr * 15 + 13, none⟩ = some (.int .u8 0) := HRX.out 13 (by omega)
              have r14 : wq.cell? ⟨rg, nr * 15 + 14, none⟩ = some (.int .u8 1) := HRX.out 14 (by omega)
              clear TBQ IBQ hb10q y2 y3 y4 HRX
              go_wp2_with fail
              go_at_call 12
              refine (rd12 pb (nr + 1) rc _ wq y1).mono ?_
              rintro e2 V ⟨rfl, rfl⟩
              go_wp2_with fail
              obtain ⟨W13, hW13⟩ : ∃ W, W = wq.alloc (.cells #[.pointer none, .pointer none, .string a0, .string ⟨#[]⟩, .string ⟨#[]⟩, .string ⟨#[]⟩, .int .u8 0, .int .i32 st', .int .i32 a4, .int .i32 0, .int .u32 (ix o1), .int .u32 (ix o2), .int .u16 0, .int .u8 0, .int .u8 1] 77) := ⟨_, rfl⟩
              have hb13 : Below wq.heap.size wq W13 := by rw [hW13]; exact (Below.refl _ _).alloc (Nat.le_refl _) _
              have A13 := Lib.hid (show At W13 wq.heap.size 77 #[.pointer none, .pointer none, .string a0, .string ⟨#[]⟩, .string ⟨#[]⟩, .string ⟨#[]⟩, .int .u8 0, .int .i32 st', .int .i32 a4, .int .i32 0, .int .u32 (ix o1), .int .u32 (ix o2), .int .u16 0, .int .u8 0, .int .u8 1] from by rw [hW13]; exact At.new wq 77 _)
              have HB13 := Lib.hid hb13
              have z13 := A13.out.lt
              rw [← hW13]
              clear hW13 hb13 x0 x2 x3 x4 x5 r0 r1 r2 r3 r4 r5 r6 r7 r8 r9 r10 r11 r12 r13 r14 y1 y6 nr1
              refine (HV1.out _).mono ?_
              rintro e3 W14 ⟨rfl, hW14⟩
              have hb14 : Below W13.heap.size W13 W14 := by rw [hW14]; exact (Below.refl _ _).alloc (Nat.le_refl _) _
              have HB14 := Lib.hid hb14
              have z14 := hb14.size
              clear hW14 hb14 HV1
              go_upto_region 74 with (fail)
              go_cut [374] from 367 to 373 (fun s wx => s = .bool false ∧ Below W14.heap.size W14 wx)
              case first =>
                cases a5
                · go_wp2_with fail
                  go_meet
                  exact ⟨rfl, Below.refl _ _⟩
                · have x1 : W14.cell? ⟨wq.heap.size, 10, none⟩ = some (.int .u32 (ix o1)) := by rw [(A13.out.below HB14.out z13).cell]; rfl
                  have HC := Lib.hid (fun W => getOf (W := W) HE1.out (fun p hp => (HO1.out p hp).1) w6a w6b)
                  go_wp2_with fail
                  go_at_call 14
                  refine (HC.out _).mono ?_
                  rintro e4 W15 ⟨rfl, hW15⟩
                  have HB15 := Lib.hid (show Below W14.heap.size W14 W15 from by rw [hW15]; exact (Below.refl _ _).alloc (Nat.le_refl _) _)
                  clear hW15
                  go_wp2_with fail
                  go_meet
                  exact ⟨rfl, HB15.out⟩
              case rest =>
              rename World => W15
              obtain ⟨rfl, hb15⟩ := hcut
              have hb1315 := HB14.out.trans (hb15.mono z14)
              have HB15 := Lib.hid hb1315
              have A15 := Lib.hid (A13.out.below hb1315 z13)
              have x1 : W15.cell? ⟨wq.heap.size, 11, none⟩ = some (.int .u32 (ix o2)) := by rw [A15.out.cell]; rfl
              have z15 := hb1315.size
              have l15 := A15.out.lt
              clear hb15 hb1315 HB14 z14
              go_wp2_with fail
              go_at_call 13
              refine (HV2.out _).mono ?_
              rintro e3 W16 ⟨rfl, hW16⟩
              have hb16 : Below W15.heap.size W15 W16 := by rw [hW16]; exact (Below.refl _ _).alloc (Nat.le_refl _) _
              have HB16 := Lib.hid hb16
              have z16 := hb16.size
              clear hW16 hb16 HV2 x1
              go_upto_region 78 with (fail)
              go_cut [387] from 380 to 386 (fun s wx => s = .bool false ∧ Below W16.heap.size W16 wx)
              case first =>
                cases a7
                · go_wp2_with fail
                  go_meet
                  exact ⟨rfl, Below.refl _ _⟩
                · have x1 : W16.cell? ⟨wq.heap.size, 11, none⟩ = some (.int .u32 (ix o2)) := by rw [(A15.out.below HB16.out l15).cell]; rfl
                  have HC := Lib.hid (fun W => getOf (W := W) HE2.out (fun p hp => (HO2.out p hp).1) w8a w8b)
                  go_wp2_with fail
                  go_at_call 14
                  refine (HC.out _).mono ?_
                  rintro e4 W17 ⟨rfl, hW17⟩
                  have HB17 := Lib.hid (show Below W16.heap.size W16 W17 from by rw [hW17]; exact (Below.refl _ _).alloc (Nat.le_refl _) _)
                  clear hW17
                  go_wp2_with fail
                  go_meet
                  exact ⟨rfl, HB17.out⟩
              case rest =>
              rename World => W17
              obtain ⟨rfl, hb17⟩ := hcut
              have hbq17 := HB13.out.trans ((HB15.out.trans ((HB16.out.trans (hb17.mono z16)).mono z15)).mono (Nat.le_of_lt z13))
              have GS17 := GSQ.out.below hbq17
              have HB17 := Lib.hid (HBQ.out.trans (hbq17.mono HBQ.out.size))
              have z17 := hbq17.size
              have AR17 := AR.out.below HB17.out l9
              obtain ⟨ga, gc, gcs, hs1, hs2, hs3, _⟩ := GS17.gen
              obtain ⟨gb, gcap, hge, _, hgl⟩ := World.ownsRow.form hs3 (by omega)
              simp only [Value.slice.injEq] at hge
              obtain ⟨rfl, _, rfl⟩ := hge
              obtain ⟨sa, sc, _, hsy, _⟩ := GS17.sym
              have x1 := GS17.c187
              have x2 : W17.cell? ⟨sb, 5, none⟩ = some (.slice (some ⟨gb, 0, none⟩) 1 gc) := by rw [hs1.cell]; exact hs2
              have x3 : W17.cell? ⟨gb, 0, none⟩ = some (.int .u32 0) := by rw [World.ownsRow.cellAt hs3 0 (by omega)]; rfl
              have x4 : W17.cell? ⟨gb, 1, none⟩ = some (.int .u32 0) := by rw [World.ownsRow.cellAt hs3 1 (by omega)]; rfl
              have x5 : W17.cell? ⟨W9.heap.size, 0, none⟩ = some (.int .u32 0) := by rw [AR17.cell]; rfl
              have x6 : W17.cell? ⟨W9.heap.size, 1, none⟩ = some (.int .u32 0) := by rw [AR17.cell]; rfl
              have H15 := Lib.hid (rd15 pb sb 1 gc _ W17 x1 x2)
              have HSY := Lib.hid (show W17.cell? ⟨pb, 106, none⟩ = some (.slice sa 1 sc) from hsy)
              have HG17 := Lib.hid GS17
              clear hb17 hbq17 GS17 AR17 hs1 hs2 hs3 hgl hsy HB13 HB15 HB16 z13 z15 z16 x1 x2
              go_wp2_with fail
              go_at_call 15
              refine H15.out.mono ?_
              rintro e5 V ⟨rfl, rfl⟩
              go_wp2_with fail
              go_quiet (fail)
              obtain ⟨W18, hW18⟩ : ∃ W, W = W17.drewN nq := ⟨_, rfl⟩
              rw [← hW18]
              have hb18 : Below W17.heap.size W17 W18 := by rw [hW18]; exact below_drewN (Below.refl _ _) nq
              have HG18 := Lib.hid (HG17.out.below hb18)
              have HB18 := Lib.hid (HB17.out.trans (hb18.mono HB17.out.size))
              have HSY18 := kept hb18 HSY.out
              have z18 := HB18.out.size
              have H16 := Lib.hid (rd16 pb 1 sc sa W18 HSY18)
              clear hW18 hb18 HG17 HB17 HSY HSY18 x3 x4 x5 x6 H15
              go_wp2_with fail
              go_at_call 16
              refine H16.out.mono ?_
              rintro e6 V ⟨rfl, rfl⟩
              have INJ := Lib.hid (show ∀ i k, i < len1 → k < len1 → refOf (lk L (z1.getD i ByteArray.empty)) = refOf (lk L (z1.getD k ByteArray.empty)) → z1.getD i ByteArray.empty = z1.getD k ByteArray.empty from fun i k hi hk h => by rw [HLD.out] at h; exact smf_ref hi hk h)
              clear H16
              go_wp2_with fail
              go_loopw [45] (fun s wz => ∃ k : Nat, s = .int .i64 k ∧ k ≤ len1 ∧ Below W18.heap.size W18 wz) (fun s _ => len1 - (intOf s).toNat)
              case atStart => exact ⟨0, rfl, Nat.zero_le _, Below.refl _ _⟩
              case round =>
                rename World => wz
                obtain ⟨k', rfl, hk', hbz⟩ := hrel
                by_cases hlt : k' < len1
                · rcases HS10.out with h0 | ⟨xb, cx, rfl, hxa, hxs⟩
                  · omega
                  have hb10z := HB18.out.trans (hbz.mono z18)
                  obtain ⟨zz, hzz⟩ : ∃ zz, zz = z1.getD k' ByteArray.empty := ⟨_, rfl⟩
                  obtain ⟨l, s, j, hv⟩ := lk_LV HLV.out zz
                  have hr : refOf (lk L zz) = (s, j) := by rw [hv]; rfl
                  have hl1 := fLi_look (L := L) (zs := z1) (Li := []) hlt
                  have hl2 := fLn_look (L := L) (zs := z1) (ns := ((0 : Nat) : Int)) (n := nr) (Ln := []) INJ.out (Nat.le_refl _) hlt
                  rw [← hzz, hr] at hl1 hl2
                  rw [niOf, show locOf (lk L zz) = l from by rw [hv]; rfl] at hl2
                  have xaz := hxa.below hb10z hxa.lt
                  have hmz : MP mkS wz W2.heap.size L := HM10.out.of_block (hb10z.block _ HM10.out.lt)
                  have x1 : wz.cell? ⟨xb, k', none⟩ = some (.string zz) := by rw [xaz.cell, hzz]; exact hxs k' hlt
                  have hlook : (Instr.lookup 29 (.map (some W2.heap.size)) (.string zz) false).run Tryd.prog wz = .ok (.agg #[.int .i32 l, .int .u32 s, .int .u32 j]) wz := by
                    have h := look_ms hmz zz false
                    rw [show (IM.look L zz).getD (Value.agg #[.int .i32 0, .int .u32 0, .int .u32 0]) = lk L zz from rfl, hv] at h
                    exact h
                  have i0 : (0 : Int) ≤ (k' : Int) := Int.natCast_nonneg _
                  have i1 : (k' : Int) < (len1 : Int) := by omega
                  obtain ⟨V, hV⟩ : ∃ V, V = wz.alloc (.cells #[.int .i32 l, .int .u32 s, .int .u32 j] 36) := ⟨_, rfl⟩
                  have hbV : Below wz.heap.size wz V := by rw [hV]; exact (Below.refl _ _).alloc (Nat.le_refl _) _
                  have AV := Lib.hid (show At V wz.heap.size 36 #[.int .i32 l, .int .u32 s, .int .u32 j] from by rw [hV]; exact At.new wz 36 _)
                  have v1 : V.cell? ⟨wz.heap.size, 1, none⟩ = some (.int .u32 s) := by rw [AV.out.cell]; rfl
                  have v2 : V.cell? ⟨wz.heap.size, 2, none⟩ = some (.int .u32 j) := by rw [AV.out.cell]; rfl
                  have zV := AV.out.lt
                  have hb18V := hbz.trans (hbV.mono hbz.size)
                  have HBV := Lib.hid hb18V
                  have GV := HG18.out.below hb18V
                  have H17 := Lib.hid (rd17 pb mi _ s j V GV.c172 GV.mpi hl1)
                  have H18 := Lib.hid (fun V2 (hb : Below V.heap.size V V2) => rd18 pb mn _ s j l 0 0 nr zz V2 ((GV.below hb).c173) ((GV.below hb).mpn) hl2)
                  have HVE := Lib.hid hV
                  have HXA := Lib.hid (hxa.below (HB18.out.trans (hb18V.mono z18)) hxa.lt)
                  have HXK := Lib.hid (show cx[k']? = some (.string zz) from by rw [hzz]; exact hxs k' hlt)
                  clear hxa hxs hb10z hzz hv hr hl1 hl2 xaz hmz hV hbV hb18V GV hbz
                  go_wp2_with fail
                  rw [← HVE.out]
                  go_wp2_with fail
                  go_at_call 17
                  refine H17.out.mono ?_
                  rintro e7 V2 ⟨rfl, hb2⟩
                  have HB2' := Lib.hid hb2
                  have v3 : V2.cell? ⟨wz.heap.size, 1, none⟩ = some (.int .u32 s) := kept hb2 v1
                  have v4 : V2.cell? ⟨wz.heap.size, 2, none⟩ = some (.int .u32 j) := kept hb2 v2
                  clear hb2 H17 v1 v2 x1 hlook
                  go_wp2_with fail
                  go_at_call 18
                  refine (H18.out V2 HB2'.out).mono ?_
                  rintro e8 V3 ⟨rfl, hb3⟩
                  have HBV3 := Lib.hid (HB2'.out.trans (hb3.mono HB2'.out.size))
                  clear hb3 H18 v3 v4
                  obtain ⟨V4, hV4⟩ : ∃ V, V = V3.alloc (.cells #[.string zz, .slice none 0 0, .int .i32 l, .int .u32 0, .int .u32 0, .int .u32 (nr : Int), .bool false, .bool false] 86) := ⟨_, rfl⟩
                  have hb4 : Below V3.heap.size V3 V4 := by rw [hV4]; exact (Below.refl _ _).alloc (Nat.le_refl _) _
                  have AN := (show At V4 V3.heap.size 86 #[.string zz, .slice none 0 0, .int .i32 l, .int .u32 0, .int .u32 0, .int .u32 (nr : Int), .bool false, .bool false] from by rw [hV4]; exact At.new V3 86 _)
                  have hbV4 := HBV3.out.trans (hb4.mono HBV3.out.size)
                  have AI4 := AV.out.below hbV4 zV
                  have AX4 := HXA.out.below hbV4 HXA.out.lt
                  have AR4 := AR.out.below (HB18.out.trans ((HBV.out.trans (hbV4.mono HBV.out.size)).mono z18)) l9
                  have y0 : V4.cell? ⟨V3.heap.size, 0, none⟩ = some (.string zz) := by rw [AN.cell]; rfl
                  have y1 : V4.cell? ⟨V3.heap.size, 2, none⟩ = some (.int .i32 l) := by rw [AN.cell]; rfl
                  have y2 : V4.cell? ⟨V3.heap.size, 3, none⟩ = some (.int .u32 0) := by rw [AN.cell]; rfl
                  have y3 : V4.cell? ⟨V3.heap.size, 4, none⟩ = some (.int .u32 0) := by rw [AN.cell]; rfl
                  have y4 : V4.cell? ⟨V3.heap.size, 5, none⟩ = some (.int .u32 (nr : Int)) := by rw [AN.cell]; rfl
                  have y5 : V4.cell? ⟨V3.heap.size, 7, none⟩ = some (.bool false) := by rw [AN.cell]; rfl
                  have y6 : V4.cell? ⟨wz.heap.size, 0, none⟩ = some (.int .i32 l) := by rw [AI4.cell]; rfl
                  have y7 : V4.cell? ⟨xb, k', none⟩ = some (.string zz) := by rw [AX4.cell]; exact HXK.out
                  have y8 : V4.cell? ⟨W9.heap.size, 0, none⟩ = some (.int .u32 0) := by rw [AR4.cell]; rfl
                  have y9 : V4.cell? ⟨W9.heap.size, 1, none⟩ = some (.int .u32 0) := by rw [AR4.cell]; rfl
                  have HB4 := Lib.hid (show Below W18.heap.size W18 V4 from HBV.out.trans (hbV4.mono HBV.out.size))
                  have HVE4 := Lib.hid hV4
                  clear hV4 hb4 AN hbV4 AI4 AX4 AR4
                  go_wp2_with fail
                  rw [← HVE4.out]
                  go_quiet (fail)
                  go_wp2_with fail
                  go_roundw
                  case rel => exact ⟨k' + 1, by go_num, by omega, below_drewN HB4.out _⟩
                  case measure => simp [intOf]; omega
                · have e : ¬ (k' : Int) < (len1 : Int) := by omega
                  have HFIN := Lib.hid (HB18.out.trans (hbz.mono z18))
                  clear hbz hk' hlt
                  go_wp2_with fail
                  go_ret
                  exact ⟨rfl, HB10.out.trans (HFIN.out.mono HB10.out.size)⟩
end fnGenerateImportStmtWholeAnswer
end Go.Proofs.YtoblkmnhoiodcaaDoor
