/- Proved here: the law FnGenerateImportStmtWholeAnswer of the given program returns true for every input of its parameter types and leaves what was in memory as it was (the frame of the proof, and the card that ties the one listed variable; the walk is in YtoblkmnhoiodcaaDoorGenerateImportStmtWholeAnswerW). No condition beyond the row's own. -/
import Derived.Test.YtoblkmnhoiodcaaDoorRows
import Derived.Test.YtoblkmnhoiodcaaDoorTie
import Derived.Test.YtoblkmnhoiodcaaDoorGenerateImportStmtWholeAnswerC
import Derived.Test.YtoblkmnhoiodcaaDoorCards
import Derived.Test.YtoblkmnhoiodcaaDoorGenerateImportStmtWholeAnswerW
import Derived.WalkKit
import Derived.ProofKit
import Derived.OpenShut
import Derived.ShutString
import Derived.ChangeOld
import Derived.Below
import Derived.SliceStrings
import Derived.ChangeSame
import Derived.ChangeVars
import Derived.Lay
import Derived.SevenTiedAt
import Derived.Handy
import Derived.Lib.LaidU8
import Derived.Stop.Joined
namespace Go.Proofs.YtoblkmnhoiodcaaDoor.fnGenerateImportStmtWholeAnswer
open Go.ChangeShapes Go.WideShapes Go.ChangeAt Go.RowKit
open Go.ChangeMaps (open_string shut_string)
set_option linter.unusedVariables false

theorem own : ownKnob Tryd.prog.godebug = none := by kernel_rfl
theorem laidOut : laidOutB Tryd.prog = true := by kernel_rfl

theorem gN : Tryd.prog.globalNamed "github.com/evanw/esbuild/internal/ast.InvalidRef" = some 0 := by kernel_rfl
theorem gT : (Tryd.prog.globals[0]?).map (·.type) = some 34 := by kernel_rfl
theorem cT : Tryd.prog.cellsOf 34 = 2 := by kernel_rfl
theorem cU : Tryd.prog.cellsOf 24 = 1 := by kernel_rfl
def cells2 : Array Value := #[.int .u32 4294967295, .int .u32 4294967295]
abbrev datum {H : Type} : DataW H := .agg [.lit (.int .u32 4294967295), .lit (.int .u32 4294967295)]
theorem reads {H : Type} (enc : TypeId × Value → H) (W : World) (sp : Nat → Bool) : DataW.trod enc Tryd.prog W 0 sp true 3 34 cells2.toList = some (datum, []) := by kernel_rfl
theorem var_below {W W' : World} {cs : Array Value} (h : Below W.heap.size W W') (hv : W.var? Tryd.prog "github.com/evanw/esbuild/internal/ast.InvalidRef" = some cs) : W'.var? Tryd.prog "github.com/evanw/esbuild/internal/ast.InvalidRef" = some cs := by
  unfold World.var? at hv ⊢
  rw [gN] at hv ⊢
  simp only [Option.bind_some] at hv ⊢
  have hlt : 0 < W.heap.size := by
    by_cases c : 0 < W.heap.size
    · exact c
    · rw [Array.getElem?_eq_none (by omega)] at hv; cases hv
  rw [h.block 0 hlt]
  exact hv
set_option maxRecDepth 100000 in
theorem cells_of_laid {W : World} (h : laidMetH Tryd.prog [("unicode/utf8.acceptRanges", Rows.laid_unicode_utf8_acceptRanges), ("github.com/evanw/esbuild/internal/ast.InvalidRef", Rows.laid_github_com_evanw_esbuild_internal_ast_InvalidRef), ("unicode/utf8.first", Rows.laid_unicode_utf8_first)] W) : W.var? Tryd.prog "github.com/evanw/esbuild/internal/ast.InvalidRef" = some cells2 := by
  rw [MakeChecks.laidMetH_plain _ _ _ (by kernel_rfl)] at h
  obtain ⟨g, t, cs, fuel, p, hg, ht, hvar, hd⟩ := Lib.laidMet.reads h (n := "github.com/evanw/esbuild/internal/ast.InvalidRef") (d := Rows.laid_github_com_evanw_esbuild_internal_ast_InvalidRef) (by simp)
  obtain rfl := Option.some.inj (gN.symm.trans hg)
  obtain rfl := Option.some.inj (gT.symm.trans ht)
  rw [hvar]
  congr 1
  obtain ⟨y0, y1, m, hx, hl, h0, h1⟩ := trod_struct2 Tryd.underlying34 hd
  obtain ⟨l⟩ := cs
  rw [cT] at hl
  match l, hl with
  | [a, b], _ =>
    have e0 := DataW.trod_int Tryd.underlying24 h0
    have e1 := DataW.trod_int Tryd.underlying24 h1
    rw [cU] at e0 e1
    obtain ⟨n0, c0, d0, _⟩ := e0
    obtain ⟨n1, c1, d1, _⟩ := e1
    subst d0 d1
    simp [Rows.laid_github_com_evanw_esbuild_internal_ast_InvalidRef] at hx c0 c1
    obtain ⟨⟨rfl, rfl⟩, _⟩ := hx
    subst c0 c1
    rfl

set_option maxRecDepth 100000 in
theorem lifted (os : Os) (started : os.Started) (H : Type) (enc : TypeId × Value → H) :
    ReturnsInHanded {} Tryd.checked os 3 .any (fun w args => (Rows.fnGenerateImportStmtWholeAnswerSpec.pre enc Tryd.prog Tryd.f3 [] false w args ∧ laidMetH Tryd.prog [("unicode/utf8.acceptRanges", Rows.laid_unicode_utf8_acceptRanges), ("github.com/evanw/esbuild/internal/ast.InvalidRef", Rows.laid_github_com_evanw_esbuild_internal_ast_InvalidRef), ("unicode/utf8.first", Rows.laid_unicode_utf8_first)] w) ∧ sizedMet enc Tryd.prog Tryd.f3 (OpenSpec.ofChange Rows.fnGenerateImportStmtWholeAnswerSpec) false w args)
      (Rows.fnGenerateImportStmtWholeAnswerSpec.post enc Tryd.prog Tryd.f3 false true false false) := by
  refine returnsInHanded_of_change_and (C := Tryd.checked) (X := fun w _ => laidMetH Tryd.prog [("unicode/utf8.acceptRanges", Rows.laid_unicode_utf8_acceptRanges), ("github.com/evanw/esbuild/internal/ast.InvalidRef", Rows.laid_github_com_evanw_esbuild_internal_ast_InvalidRef), ("unicode/utf8.first", Rows.laid_unicode_utf8_first)] w) (fun _ _ _ hh h => h.of_heap hh) own started (by kernel_rfl) Tryd.func3
    (ChangeSpec.witness_shaped (enc := enc) (C := Tryd.checked) (os := os) (X := fun w _ => laidMetH Tryd.prog [("unicode/utf8.acceptRanges", Rows.laid_unicode_utf8_acceptRanges), ("github.com/evanw/esbuild/internal/ast.InvalidRef", Rows.laid_github_com_evanw_esbuild_internal_ast_InvalidRef), ("unicode/utf8.first", Rows.laid_unicode_utf8_first)] w) false (World.laidAll Tryd.prog os [("unicode/utf8.acceptRanges", Rows.laid_unicode_utf8_acceptRanges), ("github.com/evanw/esbuild/internal/ast.InvalidRef", Rows.laid_github_com_evanw_esbuild_internal_ast_InvalidRef), ("unicode/utf8.first", Rows.laid_unicode_utf8_first)]) #[.string ⟨#[]⟩, .slice none 0 0, .slice none 0 0, .int .i32 0, .int .i32 0, .bool false, .int .u32 0, .bool false, .int .u32 0, .int .i64 0, .int .i64 0] 8 (World.laidAll_os _ _ _)
      (World.shaped_of_ZipB (by kernel_rfl) (by kernel_rfl)) (by kernel_rfl) (by kernel_rfl) (by kernel_rfl)
      (by rw [MakeChecks.laidMetH_plain _ _ _ (by kernel_rfl)]; exact laidMet_laidAll _ (by kernel_rfl) (by kernel_rfl))) ?_
  intro W base args ds gs before hval0 hW _ _ hL _
  have hval : ∀ (j : Nat) t v, Tryd.f3.params[j]? = some t → args[j]? = some v → Value.okWide Tryd.prog W .any base t v := hval0
  have hW' := hW
  obtain ⟨p, q, hA0, hV0, rfl, hfz, hnd⟩ := hW
  have hV : DataW.TrodVars enc Tryd.prog W (fun _ => true) ["github.com/evanw/esbuild/internal/ast.InvalidRef"] gs q := hV0
  have hA : DataW.TrodAll enc Tryd.prog W 0 (fun _ => true) true Tryd.f3.params.toList args.toList ds p := hA0
  rw [Tryd.params3] at hA hval
  obtain ⟨v0, vs0, d0, ds0, p0, q0, hargs, rfl, rfl, h0, r0⟩ := trodAll_cons hA
  obtain ⟨v1, vs1, d1, ds1, p1, q1, rfl, rfl, rfl, h1, r1⟩ := trodAll_cons r0
  obtain ⟨v2, vs2, d2, ds2, p2, q2, rfl, rfl, rfl, h2, r2⟩ := trodAll_cons r1
  obtain ⟨v3, vs3, d3, ds3, p3, q3, rfl, rfl, rfl, h3, r3⟩ := trodAll_cons r2
  obtain ⟨v4, vs4, d4, ds4, p4, q4, rfl, rfl, rfl, h4, r4⟩ := trodAll_cons r3
  obtain ⟨v5, vs5, d5, ds5, p5, q5, rfl, rfl, rfl, h5, r5⟩ := trodAll_cons r4
  obtain ⟨v6, vs6, d6, ds6, p6, q6, rfl, rfl, rfl, h6, r6⟩ := trodAll_cons r5
  obtain ⟨v7, vs7, d7, ds7, p7, q7, rfl, rfl, rfl, h7, r7⟩ := trodAll_cons r6
  obtain ⟨v8, vs8, d8, ds8, p8, q8, rfl, rfl, rfl, h8, r8⟩ := trodAll_cons r7
  obtain ⟨v9, vs9, d9, ds9, p9, q9, rfl, rfl, rfl, h9, r9⟩ := trodAll_cons r8
  obtain ⟨v10, vs10, d10, ds10, p10, q10, rfl, rfl, rfl, h10, r10⟩ := trodAll_cons r9
  obtain ⟨rfl, rfl, rfl⟩ := trodAll_nil r10
  obtain rfl : args = #[v0, v1, v2, v3, v4, v5, v6, v7, v8, v9, v10] := by cases args; simp_all
  obtain ⟨g, t, cs, fuel, d, p', rfl, hg, ht, hvar, hd, rfl⟩ := trodVars_one hV
  obtain rfl := Option.some.inj (gN.symm.trans hg)
  obtain rfl := Option.some.inj (gT.symm.trans ht)
  obtain rfl : cs = cells2 := Option.some.inj (hvar.symm.trans (cells_of_laid hL))
  obtain ⟨rfl, rfl⟩ := DataW.Trod.unique (v := .agg cells2) ⟨fuel, hd⟩ ⟨3, reads enc W _⟩
  have hg0 : W.cell? ⟨0, 0, none⟩ = some (.int .u32 4294967295) := World.var?_cell hg hvar 0
  have hg1 : W.cell? ⟨0, 1, none⟩ = some (.int .u32 4294967295) := World.var?_cell hg hvar 1
  obtain ⟨a0, rfl, rfl, rfl, w0⟩ := open_string Tryd.underlying9 (hval 0 9 v0 rfl rfl) h0
  obtain ⟨a1, len1, cap1, rfl⟩ := okWide_slice Tryd.underlying22 (hval 1 22 v1 rfl rfl)
  have k1 := h1
  have lt1 : ∀ x ∈ p1, x.block < W.heap.size := by obtain ⟨m, hm⟩ := k1; exact DataW.trod_lt m _ _ _ hm
  obtain ⟨z1, w1⟩ : ∃ zs, IsStrs W a1 len1 cap1 zs := by
    obtain ⟨fuel, hf⟩ := h1
    rcases open_strings Tryd.underlying22 Tryd.underlying9 (by kernel_rfl) hf with ⟨hcs, _⟩ | ⟨x, l, c, zs, hcs, _, hl, hm, hz, _, hcell, hwz⟩
    · simp [Value.cells] at hcs
      obtain ⟨rfl, rfl, rfl⟩ := hcs
      exact ⟨[], .inl ⟨rfl, rfl, rfl, rfl⟩⟩
    · simp [Value.cells] at hcs
      obtain ⟨rfl, rfl, rfl⟩ := hcs
      exact ⟨zs, .inr ⟨_, rfl, hl, hm, by simpa using hz, hcell, hwz⟩⟩
  obtain ⟨a2, len2, cap2, rfl⟩ := okWide_slice Tryd.underlying23 (hval 2 23 v2 rfl rfl)
  have k2 := h2
  have lt2 : ∀ x ∈ p2, x.block < W.heap.size := by obtain ⟨m, hm⟩ := k2; exact DataW.trod_lt m _ _ _ hm
  obtain ⟨z2, w2⟩ : ∃ zs, IsRow .i32 W a2 len2 cap2 zs := by
    obtain ⟨fuel, hf⟩ := h2
    rcases open_ints Tryd.underlying23 Tryd.underlying21 (by kernel_rfl) hf with ⟨hcs, _⟩ | ⟨x, l, c, zs, hcs, _, hl, hm, hz, _, hcell, hwz⟩
    · simp [Value.cells] at hcs
      obtain ⟨rfl, rfl, rfl⟩ := hcs
      exact ⟨[], .inl ⟨rfl, rfl, rfl, rfl⟩⟩
    · simp [Value.cells] at hcs
      obtain ⟨rfl, rfl, rfl⟩ := hcs
      exact ⟨zs, .inr ⟨_, rfl, hl, hm, by simpa using hz, hcell, hwz⟩⟩
  obtain ⟨a3, rfl, rfl, rfl, w3⟩ := open_int Tryd.underlying21 (hval 3 21 v3 rfl rfl) h3
  obtain ⟨a4, rfl, rfl, rfl, w4⟩ := open_int Tryd.underlying21 (hval 4 21 v4 rfl rfl) h4
  obtain ⟨a5, rfl, rfl, rfl⟩ := open_bool Tryd.underlying4 (hval 5 4 v5 rfl rfl) h5
  obtain ⟨a6, rfl, rfl, rfl, w6⟩ := open_int Tryd.underlying24 (hval 6 24 v6 rfl rfl) h6
  obtain ⟨a7, rfl, rfl, rfl⟩ := open_bool Tryd.underlying4 (hval 7 4 v7 rfl rfl) h7
  obtain ⟨a8, rfl, rfl, rfl, w8⟩ := open_int Tryd.underlying24 (hval 8 24 v8 rfl rfl) h8
  obtain ⟨a9, rfl, rfl, rfl, w9⟩ := open_int Tryd.underlying3 (hval 9 3 v9 rfl rfl) h9
  obtain ⟨a10, rfl, rfl, rfl, w10⟩ := open_int Tryd.underlying3 (hval 10 3 v10 rfl rfl) h10
  clear hA0 hval0
  refine (walk a0 a1 len1 cap1 z1 a2 len2 cap2 z2 a3 a4 a5 a6 a7 a8 a9 a10 W w0 w1 w2 w3 w4 w6 w8 w9 w10 hg0 hg1 hL).mono fun e W' ⟨he, bel⟩ => ?_
  subst he
  exact ⟨_, rfl, _, _, _, [], _, _, hW', trodAll_mk1 (shut_bool Tryd.underlying4 _), (trodAll_cons_mk (shut_string Tryd.underlying9 w0) (trodAll_cons_mk (Below.trod laidOut (by kernel_rfl) (of_decide_eq_true (by kernel_rfl)) k1 bel lt1) (trodAll_cons_mk (Below.trod laidOut (by kernel_rfl) (of_decide_eq_true (by kernel_rfl)) k2 bel lt2) (trodAll_cons_mk (shut_int Tryd.underlying21 w3) (trodAll_cons_mk (shut_int Tryd.underlying21 w4) (trodAll_cons_mk (shut_bool Tryd.underlying4 _) (trodAll_cons_mk (shut_int Tryd.underlying24 w6) (trodAll_cons_mk (shut_bool Tryd.underlying4 _) (trodAll_cons_mk (shut_int Tryd.underlying24 w8) (trodAll_cons_mk (shut_int Tryd.underlying3 w9) (trodAll_cons_mk (shut_int Tryd.underlying3 w10) trodAll_mk0))))))))))), trodVars_mk1 gN gT (var_below bel hvar) (reads enc W' _), bel.frame _, fun h => by cases h⟩

theorem over : Rows.fnGenerateImportStmtWholeAnswerRow.holds Tryd.pinned (OpenSpec.ofChange Rows.fnGenerateImportStmtWholeAnswerSpec) :=
  OpenClaim.holds_of_wide 3 Tryd.f3 rfl rfl rfl rfl rfl rfl rfl ⟨rfl, rfl, rfl, rfl, rfl⟩ rfl rfl rfl rfl rfl named Tryd.func3 facts
    inst wrap
    (fun os started H enc _ => lifted os started H enc)

/-- The statement. -/
theorem proved : Rows.FnGenerateImportStmtWholeAnswerCardSaid :=
  Claim7.holds_tied_plain_at .later [] [.data, .data, .pinned] true (true, "e624bb8f8e92791d8923206a2131a9a9aff39a466ba24139c97840332068ea59") false
    over (fun _ h => by cases h) (by kernel_rfl) (fun _ h => by cases h) fnGenerateImportStmtWholeAnswer_row_tie rfl ⟨rfl, rfl⟩ (by kernel_rfl) rfl
    (fun f fn hf hfn => by
      obtain rfl : f = 3 := Option.some.inj ((show Tryd.prog.funcNamed "github.com/evanw/esbuild/n011_149.FnGenerateImportStmtWholeAnswer" = some 3 by kernel_rfl).symm.trans hf) |>.symm
      obtain rfl : fn = Tryd.f3 := (Option.some.inj (Tryd.func3.symm.trans hfn)).symm
      exact ⟨by kernel_rfl, fun j t ht => by
        rw [Tryd.params3] at ht
        have hm : t ∈ [9, 22, 23, 21, 21, 4, 24, 4, 24, 3, 3] := by simpa using Array.mem_of_getElem? ht
        revert hm
        exact (show ∀ t ∈ [9, 22, 23, 21, 21, 4, 24, 4, 24, 3, 3], Tryd.prog.wantsStandIn t = false by decide +kernel) t⟩)
    (by kernel_rfl)
#print axioms proved
end Go.Proofs.YtoblkmnhoiodcaaDoor.fnGenerateImportStmtWholeAnswer
