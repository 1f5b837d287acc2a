/- Proved here: the law FnPushScopeForParsePassInheritsStrictMode of the given program returns true for every input of its parameter types and leaves what was in memory as it was, as a told card (the frame of the proof; the walk is in YthgcchgpplblbaaFmtPushScopeForParsePassInheritsStrictModeW). No condition beyond the row's own. -/
import Derived.Test.YthgcchgpplblbaaFmtRows
import Derived.Test.YthgcchgpplblbaaFmtCards
import Derived.Test.YthgcchgpplblbaaFmtPushScopeForParsePassInheritsStrictModeW
import Derived.Test.YthgcchgpplblbaaFmtTie
import Derived.WalkKit
import Derived.ChangeSame
import Derived.ChangeVars
import Derived.Lay
import Derived.SevenTiedAt
import Derived.Handy
import Derived.Stop.Joined
import Derived.ProofKit
import Derived.OpenShut
import Derived.ShutString
import Derived.ChangeOld
import Derived.Below
import Derived.Stop.JoinedAt
import Derived.Stop.JoinedTold
import Derived.SevenToldRow
namespace Go.Proofs.YthgcchgpplblbaaFmt.fnPushScopeForParsePassInheritsStrictMode
open Go.ChangeShapes Go.WideShapes Go.ChangeAt Go.RowKit
open Go.ChangeMaps (open_string shut_string)
open Go.Extern.Stop Go.Stop Go.Extern
set_option linter.unusedVariables false

theorem own : ownKnob Tryf.prog.godebug = none := by kernel_rfl
theorem laidOut : laidOutB Tryf.prog = true := by kernel_rfl
theorem stops : Tryf.pinned.checked.prog.stops = ["fmt.Sprintf"] := by kernel_rfl
theorem stopKnobs : Tryf.pinned.checked.prog.stopKnobs = [] := by kernel_rfl
theorem quiet (os : Os) : Stop.quiet Tryf.pinned.checked.prog os := by
  intro k hk
  rw [stopKnobs] at hk
  cases hk

theorem gN : Tryf.prog.globalNamed "github.com/evanw/esbuild/internal/ast.InvalidRef" = some 0 := by kernel_rfl
theorem gT : (Tryf.prog.globals[0]?).map (·.type) = some 36 := by kernel_rfl
theorem cT : Tryf.prog.cellsOf 36 = 2 := by kernel_rfl
theorem cU : Tryf.prog.cellsOf 34 = 1 := by kernel_rfl
def cells2 : Array Value := #[.int .u32 4294967295, .int .u32 4294967295]
abbrev datum {H : Type} : DataW H := .agg [.lit (.int .u32 4294967295), .lit (.int .u32 4294967295)]
theorem reads {H : Type} (enc : TypeId × Value → H) (W : World) (sp : Nat → Bool) : DataW.trod enc Tryf.prog W 0 sp true 3 36 cells2.toList = some (datum, []) := by kernel_rfl
theorem var_below {W W' : World} {cs : Array Value} (h : Below W.heap.size W W') (hv : W.var? Tryf.prog "github.com/evanw/esbuild/internal/ast.InvalidRef" = some cs) : W'.var? Tryf.prog "github.com/evanw/esbuild/internal/ast.InvalidRef" = some cs := by
  unfold World.var? at hv ⊢
  rw [gN] at hv ⊢
  simp only [Option.bind_some] at hv ⊢
  have hlt : 0 < W.heap.size := by
    by_cases c : 0 < W.heap.size
    · exact c
    · rw [Array.getElem?_eq_none (by omega)] at hv; cases hv
  rw [h.block 0 hlt]
  exact hv
set_option maxRecDepth 100000 in
theorem cells_of_laid {W : World} (h : laidMetH Tryf.prog [("github.com/evanw/esbuild/internal/ast.InvalidRef", Rows.laid_github_com_evanw_esbuild_internal_ast_InvalidRef)] W) : W.var? Tryf.prog "github.com/evanw/esbuild/internal/ast.InvalidRef" = some cells2 := by
  rw [MakeChecks.laidMetH_plain _ _ _ (by kernel_rfl)] at h
  obtain ⟨ps, ⟨g, t, cs, fuel, p, q, hg, ht, hvar, hd, _, _⟩, _⟩ := h
  obtain rfl := Option.some.inj (gN.symm.trans hg)
  obtain rfl := Option.some.inj (gT.symm.trans ht)
  rw [hvar]
  congr 1
  obtain ⟨y0, y1, m, hx, hl, h0, h1⟩ := trod_struct2 Tryf.underlying36 hd
  obtain ⟨l⟩ := cs
  rw [cT] at hl
  match l, hl with
  | [a, b], _ =>
    have e0 := DataW.trod_int Tryf.underlying34 h0
    have e1 := DataW.trod_int Tryf.underlying34 h1
    rw [cU] at e0 e1
    obtain ⟨n0, c0, d0, _⟩ := e0
    obtain ⟨n1, c1, d1, _⟩ := e1
    subst d0 d1
    simp [Rows.laid_github_com_evanw_esbuild_internal_ast_InvalidRef] at hx c0 c1
    obtain ⟨⟨rfl, rfl⟩, _⟩ := hx
    subst c0 c1
    rfl

set_option maxRecDepth 100000 in
theorem lifted (os : Os) (started : os.Started) (H : Type) (enc : TypeId × Value → H) :
    ReturnsInTold none {} Tryf.checked os 4 .any Input.okWide ((OpenSpec.ofChange Rows.fnPushScopeForParsePassInheritsStrictModeSpec).preRow enc Tryf.prog Tryf.f4 [] false [("github.com/evanw/esbuild/internal/ast.InvalidRef", Rows.laid_github_com_evanw_esbuild_internal_ast_InvalidRef)]) (fun F => ((OpenSpec.ofChange Rows.fnPushScopeForParsePassInheritsStrictModeSpec).at F).post enc Tryf.prog Tryf.f4 false true false false) (aloneAtReturn Tryf.prog) nothingAlways := by
  refine returnsInTold_of_row (C := Tryf.checked) (s := (OpenSpec.ofChange Rows.fnPushScopeForParsePassInheritsStrictModeSpec)) (by kernel_rfl) own started (by kernel_rfl) Tryf.func4
    (OpenSpec.witness_stopped_at (enc := enc) (C := Tryf.checked) false (World.laidAll Tryf.prog os [("github.com/evanw/esbuild/internal/ast.InvalidRef", Rows.laid_github_com_evanw_esbuild_internal_ast_InvalidRef)]) #[.slice none 0 0, .int .i32 0, .int .u8 0, .int .i32 0] (World.laidAll_os _ _ _) (by kernel_rfl) (by kernel_rfl) (by kernel_rfl)
      (OpenSpec.preRow_of_B (by rfl) 8 (by kernel_rfl) (by kernel_rfl) (by rw [MakeChecks.laidMetH_plain _ _ _ (by kernel_rfl)]; exact laidMet_laidAll _ (by kernel_rfl) (by kernel_rfl)))) ?_
  intro F W base args ds gs before _ hF hval0 hW _ _ _ hL _
  have hval : ∀ (j : Nat) t v, Tryf.f4.params[j]? = some t → args[j]? = some v → Value.okWide Tryf.prog W .any base t v := hval0
  have hW' := hW
  obtain ⟨p, q, hA0, hV0, rfl, hfz, hnd⟩ := hW
  have hV : DataW.TrodVars enc Tryf.prog W (fun _ => true) ["github.com/evanw/esbuild/internal/ast.InvalidRef"] gs q := hV0
  have hA : DataW.TrodAll enc Tryf.prog W 0 (fun _ => true) true Tryf.f4.params.toList args.toList ds p := hA0
  rw [Tryf.params4] at hA hval
  obtain ⟨v0, vs0, d0, ds0, p0, q0, hargs, rfl, rfl, h0, r0⟩ := trodAll_cons hA
  obtain ⟨v1, vs1, d1, ds1, p1, q1, rfl, rfl, rfl, h1, r1⟩ := trodAll_cons r0
  obtain ⟨v2, vs2, d2, ds2, p2, q2, rfl, rfl, rfl, h2, r2⟩ := trodAll_cons r1
  obtain ⟨v3, vs3, d3, ds3, p3, q3, rfl, rfl, rfl, h3, r3⟩ := trodAll_cons r2
  obtain ⟨rfl, rfl, rfl⟩ := trodAll_nil r3
  obtain rfl : args = #[v0, v1, v2, v3] := by cases args; simp_all
  obtain ⟨g, t, cs, fuel, d, p', rfl, hg, ht, hvar, hd, rfl⟩ := trodVars_one hV
  obtain rfl := Option.some.inj (gN.symm.trans hg)
  obtain rfl := Option.some.inj (gT.symm.trans ht)
  obtain rfl : cs = cells2 := Option.some.inj (hvar.symm.trans (cells_of_laid hL))
  obtain ⟨rfl, rfl⟩ := DataW.Trod.unique (v := .agg cells2) ⟨fuel, hd⟩ ⟨3, reads enc W _⟩
  have hg0 : W.cell? ⟨0, 0, none⟩ = some (.int .u32 4294967295) := World.var?_cell hg hvar 0
  have hg1 : W.cell? ⟨0, 1, none⟩ = some (.int .u32 4294967295) := World.var?_cell hg hvar 1
  obtain ⟨a0, len0, cap0, rfl⟩ := okWide_slice Tryf.underlying22 (hval 0 22 v0 rfl rfl)
  have k0 := h0
  have lt0 : ∀ x ∈ p0, x.block < W.heap.size := by obtain ⟨m, hm⟩ := k0; exact DataW.trod_lt m _ _ _ hm
  obtain ⟨z0, w0⟩ : ∃ zs, IsRow .u8 W a0 len0 cap0 zs := by
    obtain ⟨fuel, hf⟩ := h0
    rcases open_ints Tryf.underlying22 Tryf.underlying5 (by kernel_rfl) hf with ⟨hcs, _⟩ | ⟨x, l, c, zs, hcs, _, hl, hm, hz, _, hcell, hwz⟩
    · simp [Value.cells] at hcs
      obtain ⟨rfl, rfl, rfl⟩ := hcs
      exact ⟨[], .inl ⟨rfl, rfl, rfl, rfl⟩⟩
    · simp [Value.cells] at hcs
      obtain ⟨rfl, rfl, rfl⟩ := hcs
      exact ⟨zs, .inr ⟨_, rfl, hl, hm, by simpa using hz, hcell, hwz⟩⟩
  obtain ⟨a1, rfl, rfl, rfl, w1⟩ := open_int Tryf.underlying21 (hval 1 21 v1 rfl rfl) h1
  obtain ⟨a2, rfl, rfl, rfl, w2⟩ := open_int Tryf.underlying5 (hval 2 5 v2 rfl rfl) h2
  obtain ⟨a3, rfl, rfl, rfl, w3⟩ := open_int Tryf.underlying21 (hval 3 21 v3 rfl rfl) h3
  clear hA0 hval0
  refine (walk a0 len0 cap0 z0 a1 a2 a3 W w0 w1 w2 w3 hg0 hg1).mono fun e W' ⟨he, bel⟩ => ?_
  subst he
  exact ⟨_, rfl, _, _, _, [], _, _, hW', trodAll_mk1 (shut_bool Tryf.underlying4 _), (trodAll_cons_mk (Below.trod laidOut (by kernel_rfl) (of_decide_eq_true (by kernel_rfl)) k0 bel lt0) (trodAll_cons_mk (shut_int Tryf.underlying21 w1) (trodAll_cons_mk (shut_int Tryf.underlying5 w2) (trodAll_cons_mk (shut_int Tryf.underlying21 w3) trodAll_mk0)))), trodVars_mk1 gN gT (var_below bel hvar) (reads enc W' _), bel.frame _, fun h => by cases h⟩

/-- The statement: the told and tied card. -/
theorem proved : Rows.FnPushScopeForParsePassInheritsStrictModeToldSaid :=
  Claim7.holds_of_told_tied_any_at .later 4 Tryf.f4 "fmt.Sprintf" [] [] _ _ _ [.data] true (by kernel_rfl) rfl rfl rfl laidOut (by kernel_rfl) rfl ⟨rfl, rfl, rfl, rfl, rfl, rfl, rfl⟩ rfl rfl (by kernel_rfl) (by kernel_rfl) Tryf.func4 (by kernel_rfl)
    (of_decide_eq_true (by kernel_rfl)) (by unfold Func.isWrapper; first | (rw [if_pos (by decide +kernel)]; kernel_rfl) | (rw [if_neg (by decide +kernel)]; exact ⟨rfl, rfl⟩)) stops.symm rfl stopKnobs.symm (by kernel_rfl)
    (by kernel_rfl) (by kernel_rfl) (by kernel_rfl) (by kernel_rfl) (by kernel_rfl) (by kernel_rfl) (by kernel_rfl) (by kernel_rfl) (by kernel_rfl) rfl (by kernel_rfl) rfl (by first | rfl | kernel_rfl)
    rfl rfl
    rfl (by kernel_rfl) (by kernel_rfl) (by kernel_rfl) (by decide) (by kernel_rfl) fnPushScopeForParsePassInheritsStrictMode_row_tie
    (OpenClaim.moreEntering_of (by kernel_rfl) (by kernel_rfl) (by kernel_rfl) (by kernel_rfl) (by kernel_rfl) (by kernel_rfl) (by kernel_rfl) (by kernel_rfl) (by kernel_rfl) (by kernel_rfl))
    ⟨_, WideRow.started_initial, quiet _⟩
    (fun os started _ H enc _ => lifted os started H enc)
#print axioms proved
end Go.Proofs.YthgcchgpplblbaaFmt.fnPushScopeForParsePassInheritsStrictMode
