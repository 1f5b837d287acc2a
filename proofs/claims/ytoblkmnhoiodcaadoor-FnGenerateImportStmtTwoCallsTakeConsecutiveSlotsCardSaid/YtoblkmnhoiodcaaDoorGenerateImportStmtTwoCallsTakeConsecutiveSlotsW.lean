/- Proved here: the walk of FnGenerateImportStmtTwoCallsTakeConsecutiveSlots. Conditions: how the arguments read, what is laid. -/
import Derived.Test.YtoblkmnhoiodcaaDoorGIR
import Derived.Test.YtoblkmnhoiodcaaDoorGIT
import Derived.WalkKit
import Derived.WalkSpells
import Derived.WalkLawsBesides
import Derived.Lib.Hide
import Derived.Lib.SliceRun
import Derived.Deep.RegionWith
import Derived.OwnWalk
import Derived.Laws.OwnMore
import Derived.BigRegion
import Derived.BigQuiet
import Derived.WideMake
import Derived.Deep.DeepCutAuto
import Derived.Deep.CutBlock
import Derived.Deep.CutRange
import Derived.MapKept
import Derived.Deep.QuietTactic
import Derived.Deep.RegionHeld3
namespace Go.Proofs.YtoblkmnhoiodcaaDoor
open Go.RowKit
set_option linter.unusedSimpArgs false
set_option linter.unusedVariables false
namespace fnGenerateImportStmtTwoCallsTakeConsecutiveSlots
open IM IB GI

theorem strsBelow {w w' : World} {a : Option Addr} {len cap : Nat} {zs : List ByteArray} (h : IsStrs w a len cap zs) (hb : Below w.heap.size w w') : IsStrs w' a len cap zs := by
  rcases h with h | ⟨x, h1, h2, h3, h4, h5, h6⟩
  · exact .inl h
  · refine .inr ⟨x, h1, h2, h3, h4, fun i hi => ?_, h6⟩
    have hx := h5 i hi
    obtain ⟨b, off, e⟩ := spot_none (h5 0 (by omega))
    rw [e, add_none] at hx ⊢
    exact kept hb hx
/-- A list of strings in a block of its own. -/
def CS (len : Nat) (zs : List ByteArray) (s : Option Addr) (k : Nat) (W : World) : Prop := len = 0 ∨ ∃ ib cs, s = some ⟨ib, 0, none⟩ ∧ At W ib 9 cs ∧ len ≤ k ∧ ∀ i, i < len → cs[i]? = some (.string (zs.getD i ByteArray.empty))
theorem CS.below {len : Nat} {zs : List ByteArray} {s : Option Addr} {k : Nat} {W W' : World} (h : CS len zs s k W) (hb : Below W.heap.size W W') : CS len zs s k W' := by
  rcases h with h | ⟨ib, cs, h1, h2, h3⟩
  · exact .inl h
  · exact .inr ⟨ib, cs, h1, h2.below hb h2.lt, h3⟩

/-- As CS, and the block stands apart. -/
def CSN (len : Nat) (zs : List ByteArray) (s : Option Addr) (k : Nat) (M : List Nat) (W : World) : Prop := len = 0 ∨ ∃ ib cs, s = some ⟨ib, 0, none⟩ ∧ At W ib 9 cs ∧ ib ∉ M ∧ len ≤ k ∧ ∀ i, i < len → cs[i]? = some (.string (zs.getD i ByteArray.empty))
theorem CSN.keep {len : Nat} {zs : List ByteArray} {s : Option Addr} {k : Nat} {M : List Nat} {T : List TypeId} {W W' : World} (h : CSN len zs s k M W) (hk : KQ T M W W') (hT : (9 : TypeId) ∉ T) : CSN len zs s k M W' := by
  rcases h with h | ⟨ib, cs, h1, h2, h3, h4⟩
  · exact .inl h
  · exact .inr ⟨ib, cs, h1, hk.at h2 h3 hT, h3, h4⟩
theorem CSN.below {len : Nat} {zs : List ByteArray} {s : Option Addr} {k : Nat} {M : List Nat} {W W' : World} (h : CSN len zs s k M W) (hb : Below W.heap.size W W') : CSN len zs s k M W' := by
  rcases h with h | ⟨ib, cs, h1, h2, h3, h4⟩
  · exact .inl h
  · exact .inr ⟨ib, cs, h1, h2.below hb h2.lt, h3, h4⟩
set_option maxRecDepth 100000 in
set_option maxHeartbeats 8000000 in
theorem walk (a0 : ByteArray) (a1 : ByteArray) (a2 : Option Addr) (len2 cap2 : Nat) (z2 : List ByteArray) (a3 : Option Addr) (len3 cap3 : Nat) (z3 : List ByteArray) (a4 : Int) (a5 : Int) (w : World) (w0 : a0.size ≤ maxLen) (w1 : a1.size ≤ maxLen) (w2 : IsStrs w a2 len2 cap2 z2) (w3 : IsStrs w a3 len3 cap3 z3) (w4 : (Lit.int .i64 a4).wf = true) (w5 : (Lit.int .i64 a5).wf = true) (hg0 : w.cell? ⟨0, 0, none⟩ = some (.int .u32 4294967295)) (hg1 : w.cell? ⟨0, 1, none⟩ = some (.int .u32 4294967295)) (hL : laidMetH Tryd.prog [("unicode/utf8.acceptRanges", Rows.laid_unicode_utf8_acceptRanges), ("github.com/evanw/esbuild/internal/ast.InvalidRef", Rows.laid_github_com_evanw_esbuild_internal_ast_InvalidRef), ("unicode/utf8.first", Rows.laid_unicode_utf8_first)] w) :
    Calls Tryd.prog 4 #[.string a0, .string a1, .slice a2 len2 cap2, .slice a3 len3 cap3, .int .i64 a4, .int .i64 a5] w fun e w' => e = .returned (.bool true) ∧ Below w.heap.size w w' := by
  have HT := Lib.hid (tabs hL)
  have HS2 := Lib.hid w2
  have HS3 := Lib.hid w3
  have HZ := Lib.hid (zb19 a0 a1 a2 a3 len2 cap2 len3 cap3 z2 z3 a4 a5 w w0 w1 (rowv_strs w2) (rowv_strs w3) (len_strs w2).1 (len_strs w3).1 (fun i => (len_strs w2).2 i) (fun i => (len_strs w3).2 i))
  have HG0 := Lib.hid hg0
  have HG1 := Lib.hid hg1
  obtain ⟨w9a, w9b⟩ := wf_i64 w4
  obtain ⟨w10a, w10b⟩ := wf_i64 w5
  clear w2 w3 w4 w5 hg0 hg1 hL w0 w1
  go_enter Tryd.func4, Tryd.ntmps4
  go_wp2_with fail
  go_at_call 19
  refine HZ.out.mono ?_
  rintro e V ⟨b, rfl, hb, rfl⟩
  clear HZ
  cases b
  · clear hb
    go_wp2_with fail
    go_ret
    exact ⟨rfl, Below.refl _ _⟩
  obtain ⟨b1, b2, b3, b4, b5, b6⟩ := hb rfl
  have HB5 := Lib.hid b5
  have HB6 := Lib.hid b6
  clear hb b5 b6
  have p0 : (0 : Int) ≤ (a0.size : Int) := Int.natCast_nonneg _
  have q0 : (0 : Int) ≤ (a1.size : Int) := Int.natCast_nonneg _
  have l0 : (0 : Int) ≤ (len2 : Int) := Int.natCast_nonneg _
  have l1 : (0 : Int) ≤ (len3 : Int) := Int.natCast_nonneg _
  have p1 : ¬ 1048576 < (a0.size : Int) := by omega
  have q1 : ¬ 1048576 < (a1.size : Int) := by omega
  have p2 : (a0.size : Int) ≤ 1048576 := by omega
  have q2 : (a1.size : Int) ≤ 1048576 := by omega
  have p3 : (len2 : Int) ≤ 1048576 := by omega
  have p4 : (len3 : Int) ≤ 1048576 := by omega
  by_cases c1 : 65536 < (len2 : Int)
  · go_wp2_with fail
    go_ret
    exact ⟨rfl, Below.refl _ _⟩
  by_cases c2 : 65536 < (len3 : Int)
  · go_wp2_with fail
    go_ret
    exact ⟨rfl, Below.refl _ _⟩
  go_wp2_with fail
  go_at_call 6
  refine (strBytes a2 len2 cap2 z2 w (rowv_strs HS2.out) (by omega) HB5.out).mono ?_
  rintro e V ⟨t, rfl, ht0, ht1, rfl⟩
  go_wp2_with fail
  go_at_call 6
  refine (strBytes a3 len3 cap3 z3 w (rowv_strs HS3.out) (by omega) HB6.out).mono ?_
  rintro e V ⟨t2, rfl, ht2, ht3, rfl⟩
  by_cases c3 : 1048576 < (a0.size : Int) + (a1.size : Int) + t + t2
  · go_wp2_with fail
    go_ret
    exact ⟨rfl, Below.refl _ _⟩
  by_cases c4 : a4 < 0
  · go_wp2_with fail
    go_ret
    exact ⟨rfl, Below.refl _ _⟩
  by_cases c5 : 65536 < a4
  · go_wp2_with fail
    go_ret
    exact ⟨rfl, Below.refl _ _⟩
  by_cases c6 : a5 < 0
  · go_wp2_with fail
    go_ret
    exact ⟨rfl, Below.refl _ _⟩
  by_cases c7 : 65536 < a5
  · go_wp2_with fail
    go_ret
    exact ⟨rfl, Below.refl _ _⟩
  obtain ⟨np, rfl⟩ : ∃ np : Nat, a4 = np := ⟨a4.toNat, by omega⟩
  obtain ⟨nr, rfl⟩ : ∃ nr : Nat, a5 = nr := ⟨a5.toNat, by omega⟩
  go_wp2_with fail
  go_at_call 7
  refine (cpS_any a2 len2 cap2 z2 w HS2.out (by omega)).mono ?_
  rintro e W1 ⟨s1, k1, rfl, hs1, hb1⟩
  have HS1 := Lib.hid hs1
  have HB1 := Lib.hid hb1
  have HI1 := Lib.hid (strsBelow HS3.out hb1)
  clear hs1 hb1
  go_wp2_with fail
  go_at_call 7
  refine (cpS_any a3 len3 cap3 z3 W1 HI1.out (by omega)).mono ?_
  rintro e W2 ⟨s2, k2, rfl, hs2, hb2⟩
  have HB2 := Lib.hid (bel2 HB1.out hb2)
  have HSS := Lib.hid (show CS len2 z2 s1 k1 W2 from by
    rcases HS1.out with h | ⟨ib, cs, h1, h2, h3, h4, h5⟩
    · exact .inl h
    · exact .inr ⟨ib, cs, h1, h2.below hb2 h2.lt, h4, h5⟩)
  have HSU := Lib.hid (show CS len3 z3 s2 k2 W2 from by
    rcases hs2 with h | ⟨ib, cs, h1, h2, h3, h4, h5⟩
    · exact .inl h
    · exact .inr ⟨ib, cs, h1, h2, h4, h5⟩)
  clear hs2 hb2 HS1 HB1 HI1
  have hmm : ∀ (W : World) (n : Nat), (Instr.makeMap 29 (some (.int .i64 (n : Int)))).run Tryd.prog W = .ok (.map (some W.heap.size)) (W.alloc (.map #[] 0)) := fun W n => by simp [Instr.makeMap, run_underlying Tryd.underlying29, asInt, asIntOf]
  go_wp2_with fail
  have z2w := HB2.out.size
  go_loopw [14] (fun s wr => ∃ i : Nat, s = .int .i64 i ∧ i ≤ len2 ∧ SMR z2 (fun _ => 5) 7 W2 i wr) (fun s _ => len2 - (intOf s).toNat)
  case atStart => exact ⟨0, rfl, Nat.zero_le _, MP.empty (heap_alloc_new W2 _), (Below.refl _ _).alloc (Nat.le_refl _) _⟩
  case round =>
    rename World => wr
    obtain ⟨i, rfl, hi, hmp, hbw⟩ := hrel
    by_cases hlt : i < len2
    · rcases HSS.out with h0 | ⟨ib, cs, rfl, hat, hk1, hcs⟩
      · omega
      obtain ⟨zz, hzz⟩ : ∃ zz : ByteArray, zz = z2.getD i ByteArray.empty := ⟨_, rfl⟩
      have hatr := hat.below hbw hat.lt
      have x1 : wr.cell? ⟨ib, i, none⟩ = some (.string zz) := by rw [hatr.cell, hzz]; exact hcs i hlt
      have lib := hatr.lt
      obtain ⟨o, hu, hm⟩ := upd_ms hmp zz (.agg #[.int .i32 5, .int .u32 7, .int .u32 ((i : Int) + 1)])
      obtain ⟨U, hU⟩ : ∃ U, U = mput wr W2.heap.size o := ⟨_, rfl⟩
      rw [← hU] at hu hm
      have hw : IntKind.u32.wrap (IntKind.u32.wrap (i : Int) + 1) = (i : Int) + 1 := by rw [IntKind.wrap_u32, IntKind.wrap_u32]; omega
      have hu1 : (Instr.mapUpdate 29 (.map (some W2.heap.size)) (.string zz) (.agg #[.int .i32 5, .int .u32 7, .int .u32 (IntKind.u32.wrap (IntKind.u32.wrap (i : Int) + 1))])).run Tryd.prog wr = .ok () U := by rw [hw]; exact hu
      have hu2 : (Instr.mapUpdate 29 (.map (some W2.heap.size)) (.string zz) (.agg #[.int .i32 5, .int .u32 7, .int .u32 ((i : Int) + 1)])).run Tryd.prog wr = .ok () U := hu
      clear hw hu
      have HR := Lib.hid (show SMR z2 (fun _ => 5) 7 W2 (i + 1) U from ⟨by
        show MP mkS U W2.heap.size (upd _ (z2.getD i ByteArray.empty) (.agg #[.int .i32 5, .int .u32 7, .int .u32 ((i : Int) + 1)]))
        rw [← hzz]; exact hm, by rw [hU]; exact mput_below hbw _ _ (Nat.le_refl _)⟩)
      have i0 : (0 : Int) ≤ (i : Int) := Int.natCast_nonneg _
      have i1 : (i : Int) < (len2 : Int) := by omega
      have i2 : (len2 : Int) ≤ 65536 := by omega
      clear hmp hbw hat hatr hcs hm hU hzz
      go_wp2_with fail
      go_roundw
      case rel => exact ⟨i + 1, by go_num, by omega, HR.out⟩
      case measure => simp [intOf]; omega
    · obtain rfl : len2 = i := by omega
      obtain ⟨W3, rfl⟩ : ∃ W3 : World, W3 = wr := ⟨_, rfl⟩
      have HMP1 := Lib.hid hmp
      have HB3 := Lib.hid (HB2.out.trans (hbw.mono z2w))
      have HB23 := Lib.hid hbw
      have HSU3 := Lib.hid (HSU.out.below hbw)
      have z3w := HB3.out.size
      clear hmp hbw hlt hi
      go_wp2_with fail
      go_loopw [16] (fun s wr => ∃ i : Nat, s = .int .i64 i ∧ i ≤ len3 ∧ SMR z3 (fun _ => 5) 8 W3 i wr) (fun s _ => len3 - (intOf s).toNat)
      case atStart => exact ⟨0, rfl, Nat.zero_le _, MP.empty (heap_alloc_new W3 _), (Below.refl _ _).alloc (Nat.le_refl _) _⟩
      case round =>
        rename World => wr
        obtain ⟨i, rfl, hi, hmp, hbw⟩ := hrel
        by_cases hlt : i < len3
        · rcases HSU3.out with h0 | ⟨ib, cs, rfl, hat, hk1, hcs⟩
          · omega
          obtain ⟨zz, hzz⟩ : ∃ zz : ByteArray, zz = z3.getD i ByteArray.empty := ⟨_, rfl⟩
          have hatr := hat.below hbw hat.lt
          have x1 : wr.cell? ⟨ib, i, none⟩ = some (.string zz) := by rw [hatr.cell, hzz]; exact hcs i hlt
          have lib := hatr.lt
          obtain ⟨o, hu, hm⟩ := upd_ms hmp zz (.agg #[.int .i32 5, .int .u32 8, .int .u32 ((i : Int) + 1)])
          obtain ⟨U, hU⟩ : ∃ U, U = mput wr W3.heap.size o := ⟨_, rfl⟩
          rw [← hU] at hu hm
          have hw : IntKind.u32.wrap (IntKind.u32.wrap (i : Int) + 1) = (i : Int) + 1 := by rw [IntKind.wrap_u32, IntKind.wrap_u32]; omega
          have hu1 : (Instr.mapUpdate 29 (.map (some W3.heap.size)) (.string zz) (.agg #[.int .i32 5, .int .u32 8, .int .u32 (IntKind.u32.wrap (IntKind.u32.wrap (i : Int) + 1))])).run Tryd.prog wr = .ok () U := by rw [hw]; exact hu
          have hu2 : (Instr.mapUpdate 29 (.map (some W3.heap.size)) (.string zz) (.agg #[.int .i32 5, .int .u32 8, .int .u32 ((i : Int) + 1)])).run Tryd.prog wr = .ok () U := hu
          clear hw hu
          have HR := Lib.hid (show SMR z3 (fun _ => 5) 8 W3 (i + 1) U from ⟨by
            show MP mkS U W3.heap.size (upd _ (z3.getD i ByteArray.empty) (.agg #[.int .i32 5, .int .u32 8, .int .u32 ((i : Int) + 1)]))
            rw [← hzz]; exact hm, by rw [hU]; exact mput_below hbw _ _ (Nat.le_refl _)⟩)
          have i0 : (0 : Int) ≤ (i : Int) := Int.natCast_nonneg _
          have i1 : (i : Int) < (len3 : Int) := by omega
          have i2 : (len3 : Int) ≤ 65536 := by omega
          clear hmp hbw hat hatr hcs hm hU hzz
          go_wp2_with fail
          go_roundw
          case rel => exact ⟨i + 1, by go_num, by omega, HR.out⟩
          case measure => simp [intOf]; omega
        · obtain rfl : len3 = i := by omega
          obtain ⟨W4, rfl⟩ : ∃ W4 : World, W4 = wr := ⟨_, rfl⟩
          have HMP2 := Lib.hid hmp
          have HB4 := Lib.hid (HB3.out.trans (hbw.mono z3w))
          have HB34 := Lib.hid hbw
          have z34 := hbw.size
          have l3 : 3 < w.heap.size := World.block_lt_of_cell? _ _ (HT.out.2 0 (by omega)).1
          have lms1 : W2.heap.size < W3.heap.size := HMP1.out.lt
          have lms2 : W3.heap.size < W4.heap.size := HMP2.out.lt
          clear hmp hbw hlt hmm hi
          have z4w : w.heap.size ≤ W4.heap.size := HB4.out.size
          have hmk1 := made (P := Tryd.prog) (t := 37) (e := 55) Tryd.underlying37 info55 W4 np (by omega) (by omega)
          obtain ⟨W5, hW5⟩ : ∃ W, W = W4.alloc (.cells (madeCells (Value.agg #[.slice none 0 0, .slice none 0 0, .slice none 0 0, .slice none 0 0, .map none, .map none, .map none, .slice none 0 0, .bool false, .bool false, .bool false]).cells (np * 11)) 55) := ⟨_, rfl⟩
          rw [← hW5] at hmk1
          have hmk2 := made (P := Tryd.prog) (t := 38) (e := 77) Tryd.underlying38 AI.info77 W5 nr (by omega) (by omega)
          obtain ⟨W6, hW6⟩ : ∃ W, W = W5.alloc (.cells (madeCells (Value.agg #[.pointer none, .pointer none, .string ⟨#[]⟩, .string ⟨#[]⟩, .string ⟨#[]⟩, .string ⟨#[]⟩, .int .u8 0, .int .i32 0, .int .i32 0, .int .i32 0, .int .u32 0, .int .u32 0, .int .u16 0, .int .u8 0, .int .u8 0]).cells (nr * 15)) 77) := ⟨_, rfl⟩
          rw [← hW6] at hmk2
          obtain ⟨PC, hPC⟩ : ∃ PC, PC = madeCells (Value.agg #[.slice none 0 0, .slice none 0 0, .slice none 0 0, .slice none 0 0, .map none, .map none, .map none, .slice none 0 0, .bool false, .bool false, .bool false]).cells (np * 11) := ⟨_, rfl⟩
          obtain ⟨RC, hRC⟩ : ∃ RC, RC = madeCells (Value.agg #[.pointer none, .pointer none, .string ⟨#[]⟩, .string ⟨#[]⟩, .string ⟨#[]⟩, .string ⟨#[]⟩, .int .u8 0, .int .i32 0, .int .i32 0, .int .i32 0, .int .u32 0, .int .u32 0, .int .u16 0, .int .u8 0, .int .u8 0]).cells (nr * 15) := ⟨_, rfl⟩
          rw [← hPC] at hW5
          rw [← hRC] at hW6
          have z5 : W4.heap.size < W5.heap.size := by rw [hW5]; simp
          have hb46 : Below W4.heap.size W4 W6 := by rw [hW6, hW5]; exact ((Below.refl _ _).alloc (Nat.le_refl _) _).alloc (by simp) _
          have OP := Lib.hid (show W6.ownsRow w.heap.size 55 11 (.slice (some ⟨W4.heap.size, 0, none⟩) np np) np PC.toList from by
            rw [hW6]
            refine World.ownsRow.alloc ?_ _
            rw [hW5]
            exact World.ownsRow_lit W4 PC np (by omega) (by unfold maxLen; omega) (by rw [hPC]; simp [size_madeCells, Value.cells]))
          have OR := Lib.hid (show W6.ownsRow w.heap.size 77 15 (.slice (some ⟨W5.heap.size, 0, none⟩) nr nr) nr RC.toList from by
            rw [hW6]
            exact World.ownsRow_lit W5 RC nr (by omega) (by unfold maxLen; omega) (by rw [hRC]; simp [size_madeCells, Value.cells]))
          have HPCL := Lib.hid (show PC.toList.length = np * 11 from by rw [hPC]; simp [size_madeCells, Value.cells])
          have HRCL := Lib.hid (show RC.toList.length = nr * 15 from by rw [hRC]; simp [size_madeCells, Value.cells])
          have HB6 := Lib.hid (HB4.out.trans (hb46.mono z4w))
          have HB46 := Lib.hid hb46
          have z6 : W5.heap.size < W6.heap.size := by rw [hW6]; simp
          have z6w : w.heap.size ≤ W6.heap.size := HB6.out.size
          have HC10 := Lib.hid (newP w.heap.size nr (some ⟨W5.heap.size, 0, none⟩) nr RC.toList W6 z6w OR.out (kept HB6.out HG0.out) (kept HB6.out HG1.out))
          clear hW5 hW6 hPC hRC hb46
          go_wp2_with fail
          go_at_call 10
          refine HC10.out.mono ?_
          rintro e W7 ⟨pb, sb, mi, mn, rfl, hgs, hb7, hq1, hq2, hq3, hq4⟩
          have HGS := Lib.hid hgs
          have HB7 := Lib.hid hb7
          have z7 := hb7.size
          clear hgs hb7 hmk1 hmk2 HC10
          go_wp2_with fail
          obtain ⟨W8, hW8⟩ : ∃ W, W = W7.alloc (.cells #[.int .i32 3, .int .i32 1] 45) := ⟨_, rfl⟩
          rw [← hW8]
          have hb78 : Below W7.heap.size W7 W8 := by rw [hW8]; exact (Below.refl _ _).alloc (Nat.le_refl _) _
          have A45 : At W8 W7.heap.size 45 #[.int .i32 3, .int .i32 1] := by rw [hW8]; exact At.new W7 45 _
          have hlt7 := HGS.out.lt
          have z8 : W7.heap.size < W8.heap.size := A45.lt
          have hb68 := HB7.out.trans (hb78.mono z7)
          have hb48 := HB46.out.trans (hb68.mono HB46.out.size)
          have hb38 := HB34.out.trans (hb48.mono z34)
          have hb28 := HB23.out.trans (hb38.mono HB23.out.size)
          have HB8 := Lib.hid (HB6.out.trans (hb68.mono HB6.out.size))
          have hBpb := HGS.out.bp
          obtain ⟨L1, hL1⟩ : ∃ L, L = smf z2 (fun _ => 5) 7 len2 := ⟨_, rfl⟩
          obtain ⟨L2, hL2⟩ : ∃ L, L = smf z3 (fun _ => 5) 8 len3 := ⟨_, rfl⟩
          rw [← hL1] at HMP1
          rw [← hL2] at HMP2
          have HLD1 := Lib.hid hL1
          have HLD2 := Lib.hid hL2
          have HLV1 := Lib.hid (show ∀ p ∈ L1, LV p.2 from by rw [hL1]; exact smf_LV _ _ _ _)
          have HLV2 := Lib.hid (show ∀ p ∈ L2, LV p.2 from by rw [hL2]; exact smf_LV _ _ _ _)
          clear hL1 hL2
          have CS1 := Lib.hid (show CSN len2 z2 s1 k1 [pb, sb, mi, mn] W8 from by
            rcases HSS.out with h | ⟨ib, cs, h1, h2, h3, h4⟩
            · exact .inl h
            · have := h2.lt
              exact .inr ⟨ib, cs, h1, h2.below hb28 h2.lt, by simp; omega, h3, h4⟩)
          have CS2 := Lib.hid (show CSN len3 z3 s2 k2 [pb, sb, mi, mn] W8 from by
            rcases HSU3.out with h | ⟨ib, cs, h1, h2, h3, h4⟩
            · exact .inl h
            · have := h2.lt
              exact .inr ⟨ib, cs, h1, h2.below hb38 h2.lt, by simp; omega, h3, h4⟩)
          have HM1 := Lib.hid (show MP mkS W8 W2.heap.size L1 from HMP1.out.of_block (hb38.block _ HMP1.out.lt))
          have HM2 := Lib.hid (show MP mkS W8 W3.heap.size L2 from HMP2.out.of_block (hb48.block _ HMP2.out.lt))
          have HIN := Lib.hid (show IN w.heap.size pb sb mi mn W2.heap.size len2 np k1 np L1 z2 s1 (some ⟨W4.heap.size, 0, none⟩) PC.toList none none W8 from
            { mp := HM1.out
              nm := by simp; omega
              rs := CS1.out
              pt := ownKeep OP.out (fun k cs ho ha => hb68.block k ha.lt)
              np' := fun k hk => by simp [Value.ownBlock] at hk; simp; omega
              p1 := fun p hp => by cases hp
              p2 := fun p hp => by cases hp
              tb := tabsB HT.out HB8.out (by omega) (by omega)
              g0 := kept HB8.out HG0.out
              g1 := kept HB8.out HG1.out
              b3 := l3 })
          have HG8 := Lib.hid (HGS.out.below hb78)
          have H45 := Lib.hid A45
          have HC1 := Lib.hid (genW w.heap.size pb sb mi mn nr 0 0 np len2 W2.heap.size RC.toList [] [] PC.toList [] [] L1 z2 a0 3 1 s1 k1 (some ⟨W4.heap.size, 0, none⟩) np none none W8 HG8.out HIN.out HLV1.out HB8.out.size b1 (by omega) (by omega) (by omega) (by omega) (by omega))
          have NM3 := Lib.hid (show W3.heap.size ∉ [pb, sb, mi, mn] from by simp; omega)
          have NM45 := Lib.hid (show W7.heap.size ∉ [pb, sb, mi, mn] from by simp; omega)
          have NM2 := Lib.hid (show W2.heap.size ∉ [pb, sb, mi, mn] from by simp; omega)
          have LT8 := Lib.hid (show pb < W8.heap.size ∧ sb < W8.heap.size ∧ mi < W8.heap.size ∧ mn < W8.heap.size from ⟨by omega, by omega, by omega, by omega⟩)
          have z8w := HB8.out.size
          clear hW8 hb78 A45 hb68 hb48 hb38 hb28 hBpb HSS HSU HSU3 HMP1 HMP2 HB3 HB23 HB4 HB34 HB6 HB46 HB7 HGS OP OR hq1 hq2 hq3 hq4 z5 z6 z6w z7 z34 z3w z2w lms1 lms2 hlt7 HIN HG8
          go_at_call 11
          refine HC1.out.mono ?_
          rintro e W9 ⟨st1, NM1, D1, tb1, ib1, qq1, db1, g1, cap1, rfl, _, hDs1, hDOK1, hEnd1⟩
          have HDOK1 := Lib.hid hDOK1
          have kq9 := hEnd1.2.2.2.2.2.2.1
          have hb9 := hEnd1.2.2.2.2.2.2.2.1
          have HE1 := Lib.hid hEnd1
          have A9 := kq9.at H45.out NM45.out (by decide)
          have c0 : W9.cell? ⟨W7.heap.size, 0, none⟩ = some (.int .i32 3) := by rw [A9.cell]; rfl
          have c1' : W9.cell? ⟨W7.heap.size, 1, none⟩ = some (.int .i32 1) := by rw [A9.cell]; rfl
          have l9 := A9.lt
          have z9 := hb9.size
          have HB9 := Lib.hid (HB8.out.trans hb9)
          have z9w := HB9.out.size
          have HKQ9 := Lib.hid kq9
          have HIN2 := Lib.hid (show IN w.heap.size pb sb mi mn W3.heap.size len3 (np + 1) k2 cap1 L2 z3 s2 (some ⟨g1, 0, none⟩) (PC.toList ++ [.slice (some ⟨tb1, 0, none⟩) 1 1, .slice none 0 0, .slice (some ⟨ib1, 0, none⟩) 1 1, .slice (some ⟨db1, 0, none⟩) (len2 + 1) (len2 + 1), .map none, .map none, .map none, .slice none 0 0, .bool false, .bool false, .bool false]) none none W9 from
            { mp := kq9.map HM2.out NM3.out
              nm := NM3.out
              rs := CS2.out.keep kq9 (by decide)
              pt := hEnd1.1
              np' := fun k hk => by simp only [Value.ownBlock, Option.some.injEq] at hk; rw [← hk]; exact hEnd1.2.1
              p1 := fun p hp => by cases hp
              p2 := fun p hp => by cases hp
              tb := tabsB HT.out HB9.out (by omega) (by omega)
              g0 := kept HB9.out HG0.out
              g1 := kept HB9.out HG1.out
              b3 := l3 })
          have HC2 := Lib.hid (genW w.heap.size pb sb mi mn (nr + 1) 1 1 (np + 1) len3 W3.heap.size _ _ _ _ _ _ L2 z3 a1 3 1 s2 k2 (some ⟨g1, 0, none⟩) cap1 none none W9 hEnd1.2.2.2.2.2.1 HIN2.out HLV2.out z9w b2 (by omega) (by omega) (by omega) (by omega) (by omega))
          clear hDs1 hDOK1 hEnd1 kq9 hb9 A9 HC1 HIN2
          go_wp2_with fail
          go_at_call 11
          refine HC2.out.mono ?_
          rintro e W10 ⟨st2, NM2', D2, tb2, ib2, qq2, db2, g2, capb, rfl, _, hDs2, hDOK2, hEnd2⟩
          have HDOK2 := Lib.hid hDOK2
          have kq10 := hEnd2.2.2.2.2.2.2.1
          have hb10 := hEnd2.2.2.2.2.2.2.2.1
          have z10 := hb10.size
          have HB10 := Lib.hid (HB9.out.trans hb10)
          obtain ⟨e1, _, _, e4, e5, _, _, _, r1, r2, r3⟩ := HE1.out
          obtain ⟨f1, _, _, f4, f5, f6, _, _, _, _, _⟩ := hEnd2
          have ND1 := Lib.hid (show db1 ∉ [pb, sb, mi, mn] ∧ ib1 ∉ [pb, sb, mi, mn] from by have := LT8.out; exact ⟨by simp; omega, by simp; omega⟩)
          have HD1 := Lib.hid (kq10.at e5 ND1.out.1 (by decide))
          have HI1' := Lib.hid (kq10.at e4 ND1.out.2 (by decide))
          have HD2 := Lib.hid f5
          have HG10 := Lib.hid f6
          have HM1t := Lib.hid (show MP mkS W10 W2.heap.size L1 from kq10.map (HKQ9.out.map HM1.out NM2.out) NM2.out)
          have HM2t := Lib.hid (show MP mkS W10 W3.heap.size L2 from kq10.map (HKQ9.out.map HM2.out NM3.out) NM3.out)
          have CS1t := Lib.hid ((CS1.out.keep HKQ9.out (by decide)).keep kq10 (by decide))
          have CS2t := Lib.hid ((CS2.out.keep HKQ9.out (by decide)).keep kq10 (by decide))
          have HROW := Lib.hid (fun i (hi : i < (np + 1 + 1) * 11) => World.ownsRow.cellAt f1 i hi)
          have lg : g2 < W10.heap.size := (World.ownsRow.lt f1 g2 rfl).2
          have HX1 := Lib.hid (fun j (hj : j < 11) => (HROW.out (np * 11 + j) (by omega)).trans (by rw [List.getElem?_append_left (by rw [List.length_append, HPCL.out]; simp; omega), List.getElem?_append_right (by rw [HPCL.out]; omega), HPCL.out, Nat.add_sub_cancel_left]))
          have HX2 := Lib.hid (fun j (hj : j < 11) => (HROW.out ((np + 1) * 11 + j) (by omega)).trans (by rw [List.getElem?_append_right (by rw [List.length_append, HPCL.out]; simp; omega), List.length_append, HPCL.out, show (np + 1) * 11 + j - (np * 11 + List.length _) = j from by simp; omega]))
          have x0 : W10.cell? ⟨g2, np * 11, none⟩ = some (.slice (some ⟨tb1, 0, none⟩) 1 1) := HX1.out 0 (by omega)
          have x1 : W10.cell? ⟨g2, np * 11 + 1, none⟩ = some (.slice none 0 0) := HX1.out 1 (by omega)
          have x2 : W10.cell? ⟨g2, np * 11 + 2, none⟩ = some (.slice (some ⟨ib1, 0, none⟩) 1 1) := HX1.out 2 (by omega)
          have x3 : W10.cell? ⟨g2, np * 11 + 3, none⟩ = some (.slice (some ⟨db1, 0, none⟩) (len2 + 1) (len2 + 1)) := HX1.out 3 (by omega)
          have x4 : W10.cell? ⟨g2, np * 11 + 4, none⟩ = some (.map none) := HX1.out 4 (by omega)
          have x5 : W10.cell? ⟨g2, np * 11 + 5, none⟩ = some (.map none) := HX1.out 5 (by omega)
          have x6 : W10.cell? ⟨g2, np * 11 + 6, none⟩ = some (.map none) := HX1.out 6 (by omega)
          have x7 : W10.cell? ⟨g2, np * 11 + 7, none⟩ = some (.slice none 0 0) := HX1.out 7 (by omega)
          have x8 : W10.cell? ⟨g2, np * 11 + 8, none⟩ = some (.bool false) := HX1.out 8 (by omega)
          have x9 : W10.cell? ⟨g2, np * 11 + 9, none⟩ = some (.bool false) := HX1.out 9 (by omega)
          have x10 : W10.cell? ⟨g2, np * 11 + 10, none⟩ = some (.bool false) := HX1.out 10 (by omega)
          have y0 : W10.cell? ⟨g2, (np + 1) * 11, none⟩ = some (.slice (some ⟨tb2, 0, none⟩) 1 1) := HX2.out 0 (by omega)
          have y1 : W10.cell? ⟨g2, (np + 1) * 11 + 1, none⟩ = some (.slice none 0 0) := HX2.out 1 (by omega)
          have y2 : W10.cell? ⟨g2, (np + 1) * 11 + 2, none⟩ = some (.slice (some ⟨ib2, 0, none⟩) 1 1) := HX2.out 2 (by omega)
          have y3 : W10.cell? ⟨g2, (np + 1) * 11 + 3, none⟩ = some (.slice (some ⟨db2, 0, none⟩) (len3 + 1) (len3 + 1)) := HX2.out 3 (by omega)
          have y4 : W10.cell? ⟨g2, (np + 1) * 11 + 4, none⟩ = some (.map none) := HX2.out 4 (by omega)
          have y5 : W10.cell? ⟨g2, (np + 1) * 11 + 5, none⟩ = some (.map none) := HX2.out 5 (by omega)
          have y6 : W10.cell? ⟨g2, (np + 1) * 11 + 6, none⟩ = some (.map none) := HX2.out 6 (by omega)
          have y7 : W10.cell? ⟨g2, (np + 1) * 11 + 7, none⟩ = some (.slice none 0 0) := HX2.out 7 (by omega)
          have y8 : W10.cell? ⟨g2, (np + 1) * 11 + 8, none⟩ = some (.bool false) := HX2.out 8 (by omega)
          have y9 : W10.cell? ⟨g2, (np + 1) * 11 + 9, none⟩ = some (.bool false) := HX2.out 9 (by omega)
          have y10 : W10.cell? ⟨g2, (np + 1) * 11 + 10, none⟩ = some (.bool false) := HX2.out 10 (by omega)
          have v1 : W10.cell? ⟨ib1, 0, none⟩ = some (.int .u32 (nr : Int)) := by rw [HI1'.out.cell]; rfl
          have v2 : W10.cell? ⟨ib2, 0, none⟩ = some (.int .u32 ((nr : Int) + 1)) := by rw [f4.cell]; rfl
          have lib1 := HI1'.out.lt
          have lib2 := f4.lt
          have g2k1 : g2 < W10.heap.size + 1 := by omega
          have g2k2 : g2 < W10.heap.size + 1 + 1 := by omega
          have g2k3 : g2 < W10.heap.size + 1 + 1 + 1 := by omega
          have ib1k1 : ib1 < W10.heap.size + 1 := by omega
          have ib1k2 : ib1 < W10.heap.size + 1 + 1 := by omega
          have ib1k3 : ib1 < W10.heap.size + 1 + 1 + 1 := by omega
          have ib2k1 : ib2 < W10.heap.size + 1 := by omega
          have ib2k2 : ib2 < W10.heap.size + 1 + 1 := by omega
          have ib2k3 : ib2 < W10.heap.size + 1 + 1 + 1 := by omega
          have np0 : (0 : Int) ≤ (np : Int) := Int.natCast_nonneg _
          have np1 : (np : Int) ≤ 65536 := by omega
          have nr0 : (0 : Int) ≤ (nr : Int) := Int.natCast_nonneg _
          have nr1 : (nr : Int) ≤ 65536 := by omega
          have np2 : (np : Int) < (np : Int) + 1 + 1 := by omega
          have np3 : (np : Int) + 1 < (np : Int) + 1 + 1 := by omega
          have np4 : (0 : Int) ≤ (np : Int) + 1 := by omega
          have m0 : ((np : Int) + 1 + 1 != (np : Int) + 2) = false := by rw [show (np : Int) + 1 + 1 = (np : Int) + 2 from by omega]; simp
          have m1 : ((len2 : Int) + 1 != 1 + (len2 : Int)) = false := by rw [Int.add_comm]; simp
          have m2 : ((len3 : Int) + 1 != 1 + (len3 : Int)) = false := by rw [Int.add_comm]; simp
          clear hDs2 hDOK2 kq10 hb10 e1 e4 e5 f1 f4 f5 f6 HE1 HC2 HROW HX1 HX2 c0 c1' r1 r2 r3
          go_wp2_with fail
          obtain ⟨W14, hW14⟩ : ∃ W, W = (((W10.alloc (.cells #[.int .u32 0, .int .u32 0] 34)).alloc (.cells #[.int .u32 0, .int .u32 1] 34)).alloc (.cells #[.slice (some ⟨tb1, 0, none⟩) 1 1, .slice none 0 0, .slice (some ⟨ib1, 0, none⟩) 1 1, .slice (some ⟨db1, 0, none⟩) (len2 + 1) (len2 + 1), .map none, .map none, .map none, .slice none 0 0, .bool false, .bool false, .bool false] 55)).alloc (.cells #[.slice (some ⟨tb2, 0, none⟩) 1 1, .slice none 0 0, .slice (some ⟨ib2, 0, none⟩) 1 1, .slice (some ⟨db2, 0, none⟩) (len3 + 1) (len3 + 1), .map none, .map none, .map none, .slice none 0 0, .bool false, .bool false, .bool false] 55) := ⟨_, rfl⟩
          have hb14 : Below W10.heap.size W10 W14 := by rw [hW14]; exact ((((Below.refl _ _).alloc (Nat.le_refl _) _).alloc (by simp) _).alloc (by simp; omega) _).alloc (by simp; omega) _
          have a1' : At W14 W10.heap.size 34 #[.int .u32 0, .int .u32 0] := by rw [hW14]; exact (((At.new W10 34 _).alloc _).alloc _).alloc _
          have a2' : At W14 (W10.heap.size + 1) 34 #[.int .u32 0, .int .u32 1] := by
            have h := At.new (W10.alloc (.cells #[.int .u32 0, .int .u32 0] 34)) 34 #[.int .u32 0, .int .u32 1]
            rw [show (W10.alloc (.cells #[.int .u32 0, .int .u32 0] 34)).heap.size = W10.heap.size + 1 from by simp] at h
            rw [hW14]; exact (h.alloc _).alloc _
          have t1 : W14.cell? ⟨W10.heap.size + 1 + 1, 3, none⟩ = some (.slice (some ⟨db1, 0, none⟩) (len2 + 1) (len2 + 1)) := by
            have h := At.new ((W10.alloc (.cells #[.int .u32 0, .int .u32 0] 34)).alloc (.cells #[.int .u32 0, .int .u32 1] 34)) 55 #[.slice (some ⟨tb1, 0, none⟩) 1 1, .slice none 0 0, .slice (some ⟨ib1, 0, none⟩) 1 1, .slice (some ⟨db1, 0, none⟩) (len2 + 1) (len2 + 1), .map none, .map none, .map none, .slice none 0 0, .bool false, .bool false, .bool false]
            rw [show ((W10.alloc (.cells #[.int .u32 0, .int .u32 0] 34)).alloc (.cells #[.int .u32 0, .int .u32 1] 34)).heap.size = W10.heap.size + 1 + 1 from by simp] at h
            rw [hW14, (h.alloc _).cell]; rfl
          have t2x : W14.cell? ⟨W10.heap.size + 1 + 1 + 1, 3, none⟩ = some (.slice (some ⟨db2, 0, none⟩) (len3 + 1) (len3 + 1)) := by
            have h := At.new (((W10.alloc (.cells #[.int .u32 0, .int .u32 0] 34)).alloc (.cells #[.int .u32 0, .int .u32 1] 34)).alloc (.cells #[.slice (some ⟨tb1, 0, none⟩) 1 1, .slice none 0 0, .slice (some ⟨ib1, 0, none⟩) 1 1, .slice (some ⟨db1, 0, none⟩) (len2 + 1) (len2 + 1), .map none, .map none, .map none, .slice none 0 0, .bool false, .bool false, .bool false] 55)) 55 #[.slice (some ⟨tb2, 0, none⟩) 1 1, .slice none 0 0, .slice (some ⟨ib2, 0, none⟩) 1 1, .slice (some ⟨db2, 0, none⟩) (len3 + 1) (len3 + 1), .map none, .map none, .map none, .slice none 0 0, .bool false, .bool false, .bool false]
            rw [show (((W10.alloc (.cells #[.int .u32 0, .int .u32 0] 34)).alloc (.cells #[.int .u32 0, .int .u32 1] 34)).alloc (.cells #[.slice (some ⟨tb1, 0, none⟩) 1 1, .slice none 0 0, .slice (some ⟨ib1, 0, none⟩) 1 1, .slice (some ⟨db1, 0, none⟩) (len2 + 1) (len2 + 1), .map none, .map none, .map none, .slice none 0 0, .bool false, .bool false, .bool false] 55)).heap.size = W10.heap.size + 1 + 1 + 1 from by simp] at h
            rw [hW14, h.cell]; rfl
          rw [← hW14]
          clear hW14 x0 x1 x2 x3 x4 x5 x6 x7 x8 x9 x10 y0 y1 y2 y3 y4 y5 y6 y7 y8 y9 y10 v1 v2 lib1 lib2 m0 m1 m2 np2 np3 np4 lg g2k1 g2k2 g2k3 ib1k1 ib1k2 ib1k3 ib2k1 ib2k2 ib2k3
          have d1 : W14.cell? ⟨db1, 0, none⟩ = some (.int .u32 0) := by rw [(HD1.out.below hb14 HD1.out.lt).cell]; exact HDOK1.out.1
          have d2 : W14.cell? ⟨db1, 1, none⟩ = some (.int .u32 0) := by rw [(HD1.out.below hb14 HD1.out.lt).cell]; exact HDOK1.out.2.1
          have d3 : W14.cell? ⟨db2, 0, none⟩ = some (.int .u32 0) := by rw [(HD2.out.below hb14 HD2.out.lt).cell]; exact HDOK2.out.1
          have d4 : W14.cell? ⟨db2, 1, none⟩ = some (.int .u32 1) := by rw [(HD2.out.below hb14 HD2.out.lt).cell]; exact HDOK2.out.2.1
          have n1 : W14.cell? ⟨W10.heap.size, 0, none⟩ = some (.int .u32 0) := by rw [a1'.cell]; rfl
          have n2 : W14.cell? ⟨W10.heap.size, 1, none⟩ = some (.int .u32 0) := by rw [a1'.cell]; rfl
          have n3 : W14.cell? ⟨W10.heap.size + 1, 0, none⟩ = some (.int .u32 0) := by rw [a2'.cell]; rfl
          have n4 : W14.cell? ⟨W10.heap.size + 1, 1, none⟩ = some (.int .u32 1) := by rw [a2'.cell]; rfl
          have HB14 := Lib.hid hb14
          have HA1 := Lib.hid a1'
          have HA2 := Lib.hid a2'
          have i2 : (0 : Int) < (len2 : Int) + 1 := by omega
          have i3 : (0 : Int) < (len3 : Int) + 1 := by omega
          clear hb14 a1' a2'
          go_quiet (fail)
          obtain ⟨W15, hW15⟩ : ∃ W, W = W14.drewN nq := ⟨_, rfl⟩
          rw [← hW15]
          have hb15 : Below W10.heap.size W10 W15 := by rw [hW15]; exact below_drewN HB14.out nq
          have HA1' := HA1.out
          have HA2' := HA2.out
          have a15 : At W15 W10.heap.size 34 #[.int .u32 0, .int .u32 0] := by rw [hW15]; exact HA1'
          have b15 : At W15 (W10.heap.size + 1) 34 #[.int .u32 0, .int .u32 1] := by rw [hW15]; exact HA2'
          have GS15 := HG10.out.below hb15
          obtain ⟨rg, rc, y1, y2, y3, y4, _, y6, _, _, _⟩ := recStep GS15
          have r1 : W15.cell? ⟨rg, nr * 15 + 2, none⟩ = some (.string a0) := by
            rw [y3 _ (by omega), List.getElem?_append_left (by rw [List.length_append, HRCL.out]; simp [recOf] <;> omega), List.getElem?_append_right (by rw [HRCL.out]; omega), HRCL.out, Nat.add_sub_cancel_left]; rfl
          have r2 : W15.cell? ⟨rg, (nr + 1) * 15 + 2, none⟩ = some (.string a1) := by
            rw [y3 _ (by omega), List.getElem?_append_right (by rw [List.length_append, HRCL.out]; simp [recOf] <;> omega), List.length_append, HRCL.out, show (nr + 1) * 15 + 2 - (nr * 15 + List.length (recOf a0 st1 1 (ix none) (ix none))) = 2 from by simp [recOf] <;> omega]; rfl
          obtain ⟨ga, gc, gcs, hs1, hs2, hs3, _⟩ := GS15.gen
          obtain ⟨gb, gcap, hge, _, hgl⟩ := World.ownsRow.form hs3 (by omega)
          simp only [Value.slice.injEq] at hge
          obtain ⟨rfl, _, rfl⟩ := hge
          have u1 := GS15.c187
          have u2 : W15.cell? ⟨sb, 5, none⟩ = some (.slice (some ⟨gb, 0, none⟩) 2 gc) := by rw [hs1.cell]; exact hs2
          have u3 : W15.cell? ⟨gb, 0, none⟩ = some (.int .u32 0) := by rw [World.ownsRow.cellAt hs3 0 (by omega)]; rfl
          have u4 : W15.cell? ⟨gb, 1, none⟩ = some (.int .u32 0) := by rw [World.ownsRow.cellAt hs3 1 (by omega)]; rfl
          have u5 : W15.cell? ⟨gb, 2, none⟩ = some (.int .u32 0) := by rw [World.ownsRow.cellAt hs3 2 (by omega)]; rfl
          have u6 : W15.cell? ⟨gb, 3, none⟩ = some (.int .u32 1) := by rw [World.ownsRow.cellAt hs3 3 (by omega)]; rfl
          have n1 : W15.cell? ⟨W10.heap.size, 0, none⟩ = some (.int .u32 0) := by rw [a15.cell]; rfl
          have n2 : W15.cell? ⟨W10.heap.size, 1, none⟩ = some (.int .u32 0) := by rw [a15.cell]; rfl
          have n3 : W15.cell? ⟨W10.heap.size + 1, 0, none⟩ = some (.int .u32 0) := by rw [b15.cell]; rfl
          have n4 : W15.cell? ⟨W10.heap.size + 1, 1, none⟩ = some (.int .u32 1) := by rw [b15.cell]; rfl
          have H12 := Lib.hid (rd12 pb (nr + 1 + 1) rc _ W15 y1)
          have H15 := Lib.hid (rd15 pb sb 2 gc _ W15 u1 u2)
          have HB15 := Lib.hid hb15
          have HA15 := Lib.hid a15
          have HC15 := Lib.hid b15
          have HG15 := Lib.hid GS15
          have m0 : ((nr : Int) + 1 + 1 != (nr : Int) + 2) = false := by rw [show (nr : Int) + 1 + 1 = (nr : Int) + 2 from by omega]; simp
          have j1 : (nr : Int) < (nr : Int) + 1 + 1 := by omega
          have j2 : (nr : Int) + 1 < (nr : Int) + 1 + 1 := by omega
          have j3 : (0 : Int) ≤ (nr : Int) + 1 := by omega
          clear hW15 hb15 HA1' HA2' a15 b15 GS15 y1 y2 y3 y4 y6 hs1 hs2 hs3 hgl u1 u2 HA1 HA2 HB14 d1 d2 d3 d4 t1 t2x
          go_wp2_with fail
          go_at_call 12
          refine H12.out.mono ?_
          rintro e V ⟨rfl, rfl⟩
          go_wp2_with fail
          go_at_call 15
          refine H15.out.mono ?_
          rintro e V ⟨rfl, rfl⟩
          clear r1 r2 m0 H12 H15
          go_wp2_with fail
          go_quiet (fail)
          obtain ⟨W16, hW16⟩ : ∃ W, W = W15.drewN nq := ⟨_, rfl⟩
          rw [← hW16]
          have hb16 : Below W10.heap.size W10 W16 := by rw [hW16]; exact below_drewN HB15.out nq
          have HA15' := HA15.out
          have HC15' := HC15.out
          have HA16 := Lib.hid (show At W16 W10.heap.size 34 #[.int .u32 0, .int .u32 0] from by rw [hW16]; exact HA15')
          have HC16 := Lib.hid (show At W16 (W10.heap.size + 1) 34 #[.int .u32 0, .int .u32 1] from by rw [hW16]; exact HC15')
          have HG16 := Lib.hid (HG10.out.below hb16)
          have HB16 := Lib.hid hb16
          have z16 := hb16.size
          have la16 := HA16.out.lt
          have lc16 := HC16.out.lt
          have CS16 := Lib.hid (CS1t.out.below hb16)
          have CT16 := Lib.hid (CS2t.out.below hb16)
          have HM16 := Lib.hid (show MP mkS W16 W2.heap.size L1 from HM1t.out.of_block (hb16.block _ HM1t.out.lt))
          have HN16 := Lib.hid (show MP mkS W16 W3.heap.size L2 from HM2t.out.of_block (hb16.block _ HM2t.out.lt))
          have INJ1 := Lib.hid (show ∀ i k, i < len2 → k < len2 → refOf (lk L1 (z2.getD i ByteArray.empty)) = refOf (lk L1 (z2.getD k ByteArray.empty)) → z2.getD i ByteArray.empty = z2.getD k ByteArray.empty from fun i k hi hk h => by rw [HLD1.out] at h; exact smf_ref hi hk h)
          have INJ2 := Lib.hid (show ∀ i k, i < len3 → k < len3 → refOf (lk L2 (z3.getD i ByteArray.empty)) = refOf (lk L2 (z3.getD k ByteArray.empty)) → z3.getD i ByteArray.empty = z3.getD k ByteArray.empty from fun i k hi hk h => by rw [HLD2.out] at h; exact smf_ref hi hk h)
          have SRC1 := Lib.hid (show ∀ i, i < len2 → (refOf (lk L1 (z2.getD i ByteArray.empty))).1 = 7 from fun i hi => by rw [HLD1.out]; exact smf_src hi)
          have SRC2 := Lib.hid (show ∀ i, i < len3 → (refOf (lk L2 (z3.getD i ByteArray.empty))).1 = 8 from fun i hi => by rw [HLD2.out]; exact smf_src hi)
          clear hW16 hb16 HA15' HC15' u3 u4 u5 u6 n1 n2 n3 n4 HA15 HC15 HB15 HG15 j1 j2 j3 i2 i3
          go_wp2_with fail
          go_loopw [31] (fun s wz => ∃ k : Nat, s = .int .i64 k ∧ k ≤ len2 ∧ Below W16.heap.size W16 wz) (fun s _ => len2 - (intOf s).toNat)
          case atStart => exact ⟨0, rfl, Nat.zero_le _, Below.refl _ _⟩
          case round =>
            rename World => wz
            obtain ⟨k', rfl, hk', hbz⟩ := hrel
            by_cases hlt : k' < len2
            · rcases CS16.out with h0 | ⟨xb, cx, rfl, hxa, _, _, hxs⟩
              · omega
              obtain ⟨zz, hzz⟩ : ∃ zz, zz = z2.getD k' ByteArray.empty := ⟨_, rfl⟩
              obtain ⟨l, s, j, hv⟩ := lk_LV HLV1.out zz
              have hr : refOf (lk L1 zz) = (s, j) := by rw [hv]; rfl
              have hl2 : IM.look (fLn L2 z3 ((1 : Nat) : Int) (nr + 1) (fLn L1 z2 ((0 : Nat) : Int) nr [] len2) len3) (refOf (lk L1 (z2.getD k' ByteArray.empty))) = some (niOf L1 (z2.getD k' ByteArray.empty) ((0 : Nat) : Int) nr) := by
                rw [fLn_far (fun i hi he => by
                  have h1 := SRC2.out i hi
                  have h2 := SRC1.out k' hlt
                  rw [he, h2] at h1
                  omega)]
                exact fLn_look INJ1.out (Nat.le_refl _) hlt
              rw [← hzz, hr] at hl2
              rw [niOf, show locOf (lk L1 zz) = l from by rw [hv]; rfl] at hl2
              have xaz := hxa.below hbz hxa.lt
              have hmz : MP mkS wz W2.heap.size L1 := HM16.out.of_block (hbz.block _ HM16.out.lt)
              have x1 : wz.cell? ⟨xb, k', none⟩ = some (.string zz) := by rw [xaz.cell, hzz]; exact hxs k' hlt
              have hlook : (Instr.lookup 29 (.map (some W2.heap.size)) (.string zz) false).run Tryd.prog wz = .ok (.agg #[.int .i32 l, .int .u32 s, .int .u32 j]) wz := by
                have h := look_ms hmz zz false
                rw [show (IM.look L1 zz).getD (Value.agg #[.int .i32 0, .int .u32 0, .int .u32 0]) = lk L1 zz from rfl, hv] at h
                exact h
              have i0 : (0 : Int) ≤ (k' : Int) := Int.natCast_nonneg _
              have i1 : (k' : Int) < (len2 : Int) := by omega
              have GV := HG16.out.below hbz
              have H18 := Lib.hid (rd18 pb mn _ s j l 0 0 nr zz wz GV.c173 GV.mpn hl2)
              have HBZ := Lib.hid hbz
              have zz16 := hbz.size
              clear hxa hxs hzz hv hr hl2 xaz hmz GV hbz
              go_wp2_with fail
              go_at_call 18
              refine H18.out.mono ?_
              rintro e8 V3 ⟨rfl, hb3⟩
              have HB3 := Lib.hid (HBZ.out.trans (hb3.mono zz16))
              have AA3 := HA16.out.below HB3.out la16
              have q0 : V3.cell? ⟨W10.heap.size, 0, none⟩ = some (.int .u32 0) := by rw [AA3.cell]; rfl
              have q1 : V3.cell? ⟨W10.heap.size, 1, none⟩ = some (.int .u32 0) := by rw [AA3.cell]; rfl
              have lq := AA3.lt
              have zV3 := HB3.out.size
              clear hb3 H18 x1 hlook AA3
              go_wp2_with fail
              go_roundw
              case rel => exact ⟨k' + 1, by go_num, by omega, HB3.out.alloc zV3 _⟩
              case measure => simp [intOf]; omega
            · have e : ¬ (k' : Int) < (len2 : Int) := by omega
              have HBz := Lib.hid hbz
              clear hbz hk' hlt
              go_wp2_with fail
              go_loopw [34] (fun s wz => ∃ k : Nat, s = .int .i64 k ∧ k ≤ len3 ∧ Below W16.heap.size W16 wz) (fun s _ => len3 - (intOf s).toNat)
              case atStart => exact ⟨0, rfl, Nat.zero_le _, HBz.out⟩
              case round =>
                rename World => wz
                obtain ⟨k', rfl, hk', hbz⟩ := hrel
                by_cases hlt : k' < len3
                · rcases CT16.out with h0 | ⟨xb, cx, rfl, hxa, _, _, hxs⟩
                  · omega
                  obtain ⟨zz, hzz⟩ : ∃ zz, zz = z3.getD k' ByteArray.empty := ⟨_, rfl⟩
                  obtain ⟨l, s, j, hv⟩ := lk_LV HLV2.out zz
                  have hr : refOf (lk L2 zz) = (s, j) := by rw [hv]; rfl
                  have hl2 := fLn_look (L := L2) (zs := z3) (ns := ((1 : Nat) : Int)) (n := nr + 1) (Ln := fLn L1 z2 ((0 : Nat) : Int) nr [] len2) INJ2.out (Nat.le_refl _) hlt
                  rw [← hzz, hr] at hl2
                  rw [niOf, show locOf (lk L2 zz) = l from by rw [hv]; rfl] at hl2
                  have xaz := hxa.below hbz hxa.lt
                  have hmz : MP mkS wz W3.heap.size L2 := HN16.out.of_block (hbz.block _ HN16.out.lt)
                  have x1 : wz.cell? ⟨xb, k', none⟩ = some (.string zz) := by rw [xaz.cell, hzz]; exact hxs k' hlt
                  have hlook : (Instr.lookup 29 (.map (some W3.heap.size)) (.string zz) false).run Tryd.prog wz = .ok (.agg #[.int .i32 l, .int .u32 s, .int .u32 j]) wz := by
                    have h := look_ms hmz zz false
                    rw [show (IM.look L2 zz).getD (Value.agg #[.int .i32 0, .int .u32 0, .int .u32 0]) = lk L2 zz from rfl, hv] at h
                    exact h
                  have i0 : (0 : Int) ≤ (k' : Int) := Int.natCast_nonneg _
                  have i1 : (k' : Int) < (len3 : Int) := by omega
                  have GV := HG16.out.below hbz
                  have H18 := Lib.hid (rd18 pb mn _ s j l 0 1 ((nr + 1 : Nat) : Int) zz wz GV.c173 GV.mpn hl2)
                  have HBZ := Lib.hid hbz
                  have zz16 := hbz.size
                  clear hxa hxs hzz hv hr hl2 xaz hmz GV hbz
                  go_wp2_with fail
                  go_at_call 18
                  refine H18.out.mono ?_
                  rintro e8 V3 ⟨rfl, hb3⟩
                  have HB3 := Lib.hid (HBZ.out.trans (hb3.mono zz16))
                  have AC3 := HC16.out.below HB3.out lc16
                  have q0 : V3.cell? ⟨W10.heap.size + 1, 0, none⟩ = some (.int .u32 0) := by rw [AC3.cell]; rfl
                  have q1 : V3.cell? ⟨W10.heap.size + 1, 1, none⟩ = some (.int .u32 1) := by rw [AC3.cell]; rfl
                  have lq := AC3.lt
                  have zV3 := HB3.out.size
                  clear hb3 H18 x1 hlook AC3
                  go_wp2_with fail
                  go_roundw
                  case rel => exact ⟨k' + 1, by go_num, by omega, HB3.out.alloc zV3 _⟩
                  case measure => simp [intOf]; omega
                · have e : ¬ (k' : Int) < (len3 : Int) := by omega
                  have HFIN := Lib.hid (HB10.out.trans ((HB16.out.trans (hbz.mono z16)).mono HB10.out.size))
                  clear hbz hk' hlt
                  go_wp2_with fail
                  go_ret
                  exact ⟨rfl, HFIN.out⟩
end fnGenerateImportStmtTwoCallsTakeConsecutiveSlots
end Go.Proofs.YtoblkmnhoiodcaaDoor
