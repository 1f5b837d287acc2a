/- Proved here: the law FnMarkSyntaxFeatureLogTable of the given program returns true for every input of its parameter types and leaves what was in memory as it was, as a told card (the frame of the proof; the walk is in YtkkkamniccgblaaFmtMarkSyntaxFeatureLogTableW). No condition beyond the row's own. -/
import Derived.Test.YtkkkamniccgblaaFmtRows
import Derived.Test.YtkkkamniccgblaaFmtCards
import Derived.Test.YtkkkamniccgblaaFmtMarkSyntaxFeatureLogTableW
import Derived.Test.YtkkkamniccgblaaFmtTie
import Derived.WalkKit
import Derived.ChangeSame
import Derived.ChangeVars
import Derived.Lay
import Derived.SevenTiedAt
import Derived.Handy
import Derived.Stop.Joined
import Derived.ProofKit
import Derived.OpenShut
import Derived.ShutString
import Derived.ChangeOld
import Derived.Below
import Derived.Stop.JoinedAt
import Derived.Stop.JoinedTold
import Derived.SevenToldRow
namespace Go.Proofs.YtkkkamniccgblaaFmt.fnMarkSyntaxFeatureLogTable
open Go.ChangeShapes Go.WideShapes Go.ChangeAt Go.RowKit
open Go.ChangeMaps (open_string shut_string)
open Go.Extern.Stop Go.Stop Go.Extern
set_option linter.unusedVariables false

theorem own : ownKnob Tryf.prog.godebug = none := by kernel_rfl
theorem laidOut : laidOutB Tryf.prog = true := by kernel_rfl
theorem stops : Tryf.pinned.checked.prog.stops = ["fmt.Sprintf"] := by kernel_rfl
theorem stopKnobs : Tryf.pinned.checked.prog.stopKnobs = [] := by kernel_rfl
theorem quiet (os : Os) : Stop.quiet Tryf.pinned.checked.prog os := by
  intro k hk
  rw [stopKnobs] at hk
  cases hk

set_option maxRecDepth 100000 in
theorem lifted (os : Os) (started : os.Started) (H : Type) (enc : TypeId × Value → H) :
    ReturnsInTold none {} Tryf.checked os 4 .any Input.okWide ((OpenSpec.ofChange Rows.fnMarkSyntaxFeatureLogTableSpec).preRow enc Tryf.prog Tryf.f4 [] false [("unicode/utf8.acceptRanges", Rows.laid_unicode_utf8_acceptRanges), ("unicode/utf8.first", Rows.laid_unicode_utf8_first)]) (fun F => ((OpenSpec.ofChange Rows.fnMarkSyntaxFeatureLogTableSpec).at F).post enc Tryf.prog Tryf.f4 false true false false) (aloneAtReturn Tryf.prog) nothingAlways := by
  refine returnsInTold_of_row (C := Tryf.checked) (s := (OpenSpec.ofChange Rows.fnMarkSyntaxFeatureLogTableSpec)) (by kernel_rfl) own started (by kernel_rfl) Tryf.func4
    (OpenSpec.witness_stopped_at (enc := enc) (C := Tryf.checked) false (World.laidAll Tryf.prog os [("unicode/utf8.acceptRanges", Rows.laid_unicode_utf8_acceptRanges), ("unicode/utf8.first", Rows.laid_unicode_utf8_first)]) #[.int .u64 0, .int .u64 0, .int .u64 0, .string ⟨#[]⟩, .int .u8 0, .bool false, .int .i32 0, .string ⟨#[]⟩, .int .i32 0, .int .i32 0] (World.laidAll_os _ _ _) (by kernel_rfl) (by kernel_rfl) (by kernel_rfl)
      (OpenSpec.preRow_of_B (by rfl) 8 (by kernel_rfl) (by kernel_rfl) (by rw [MakeChecks.laidMetH_plain _ _ _ (by kernel_rfl)]; exact laidMet_laidAll _ (by kernel_rfl) (by kernel_rfl)))) ?_
  intro F W base args ds gs before _ hF hval0 hW _ _ _ hL _
  have hval : ∀ (j : Nat) t v, Tryf.f4.params[j]? = some t → args[j]? = some v → Value.okWide Tryf.prog W .any base t v := hval0
  have hW' := hW
  obtain ⟨p, q, hA0, hV, rfl, hfz, hnd⟩ := hW
  have hA : DataW.TrodAll enc Tryf.prog W 0 (fun _ => true) true Tryf.f4.params.toList args.toList ds p := hA0
  rw [Tryf.params4] at hA hval
  obtain ⟨v0, vs0, d0, ds0, p0, q0, hargs, rfl, rfl, h0, r0⟩ := trodAll_cons hA
  obtain ⟨v1, vs1, d1, ds1, p1, q1, rfl, rfl, rfl, h1, r1⟩ := trodAll_cons r0
  obtain ⟨v2, vs2, d2, ds2, p2, q2, rfl, rfl, rfl, h2, r2⟩ := trodAll_cons r1
  obtain ⟨v3, vs3, d3, ds3, p3, q3, rfl, rfl, rfl, h3, r3⟩ := trodAll_cons r2
  obtain ⟨v4, vs4, d4, ds4, p4, q4, rfl, rfl, rfl, h4, r4⟩ := trodAll_cons r3
  obtain ⟨v5, vs5, d5, ds5, p5, q5, rfl, rfl, rfl, h5, r5⟩ := trodAll_cons r4
  obtain ⟨v6, vs6, d6, ds6, p6, q6, rfl, rfl, rfl, h6, r6⟩ := trodAll_cons r5
  obtain ⟨v7, vs7, d7, ds7, p7, q7, rfl, rfl, rfl, h7, r7⟩ := trodAll_cons r6
  obtain ⟨v8, vs8, d8, ds8, p8, q8, rfl, rfl, rfl, h8, r8⟩ := trodAll_cons r7
  obtain ⟨v9, vs9, d9, ds9, p9, q9, rfl, rfl, rfl, h9, r9⟩ := trodAll_cons r8
  obtain ⟨rfl, rfl, rfl⟩ := trodAll_nil r9
  obtain rfl : args = #[v0, v1, v2, v3, v4, v5, v6, v7, v8, v9] := by cases args; simp_all
  obtain ⟨rfl, rfl⟩ := trodVars_none hV
  obtain ⟨a0, rfl, rfl, rfl, w0⟩ := open_int Tryf.underlying22 (hval 0 22 v0 rfl rfl) h0
  obtain ⟨a1, rfl, rfl, rfl, w1⟩ := open_int Tryf.underlying22 (hval 1 22 v1 rfl rfl) h1
  obtain ⟨a2, rfl, rfl, rfl, w2⟩ := open_int Tryf.underlying22 (hval 2 22 v2 rfl rfl) h2
  obtain ⟨a3, rfl, rfl, rfl, w3⟩ := open_string Tryf.underlying9 (hval 3 9 v3 rfl rfl) h3
  obtain ⟨a4, rfl, rfl, rfl, w4⟩ := open_int Tryf.underlying5 (hval 4 5 v4 rfl rfl) h4
  obtain ⟨a5, rfl, rfl, rfl⟩ := open_bool Tryf.underlying4 (hval 5 4 v5 rfl rfl) h5
  obtain ⟨a6, rfl, rfl, rfl, w6⟩ := open_int Tryf.underlying21 (hval 6 21 v6 rfl rfl) h6
  obtain ⟨a7, rfl, rfl, rfl, w7⟩ := open_string Tryf.underlying9 (hval 7 9 v7 rfl rfl) h7
  obtain ⟨a8, rfl, rfl, rfl, w8⟩ := open_int Tryf.underlying21 (hval 8 21 v8 rfl rfl) h8
  obtain ⟨a9, rfl, rfl, rfl, w9⟩ := open_int Tryf.underlying21 (hval 9 21 v9 rfl rfl) h9
  clear hA0 hval0
  refine (walk a0 a1 a2 a3 a4 a5 a6 a7 a8 a9 W w0 w1 w2 w3 w4 w6 w7 w8 w9 hL).mono fun e W' ⟨he, bel⟩ => ?_
  subst he
  exact ⟨_, rfl, _, _, _, [], _, [], hW', trodAll_mk1 (shut_bool Tryf.underlying4 _), (trodAll_cons_mk (shut_int Tryf.underlying22 w0) (trodAll_cons_mk (shut_int Tryf.underlying22 w1) (trodAll_cons_mk (shut_int Tryf.underlying22 w2) (trodAll_cons_mk (shut_string Tryf.underlying9 w3) (trodAll_cons_mk (shut_int Tryf.underlying5 w4) (trodAll_cons_mk (shut_bool Tryf.underlying4 _) (trodAll_cons_mk (shut_int Tryf.underlying21 w6) (trodAll_cons_mk (shut_string Tryf.underlying9 w7) (trodAll_cons_mk (shut_int Tryf.underlying21 w8) (trodAll_cons_mk (shut_int Tryf.underlying21 w9) trodAll_mk0)))))))))), rfl, bel.frame _, fun h => by cases h⟩

/-- The statement: the told and tied card. -/
theorem proved : Rows.FnMarkSyntaxFeatureLogTableToldSaid :=
  Claim7.holds_of_told_tied_any_at .later 4 Tryf.f4 "fmt.Sprintf" [] [] _ _ _ [.data, .pinned] true (by kernel_rfl) rfl rfl rfl laidOut (by kernel_rfl) rfl ⟨rfl, rfl, rfl, rfl, rfl, rfl, rfl⟩ rfl rfl (by kernel_rfl) (by kernel_rfl) Tryf.func4 (by kernel_rfl)
    (of_decide_eq_true (by kernel_rfl)) (by unfold Func.isWrapper; first | (rw [if_pos (by decide +kernel)]; kernel_rfl) | (rw [if_neg (by decide +kernel)]; exact ⟨rfl, rfl⟩)) stops.symm rfl stopKnobs.symm (by kernel_rfl)
    (by kernel_rfl) (by kernel_rfl) (by kernel_rfl) (by kernel_rfl) (by kernel_rfl) (by kernel_rfl) (by kernel_rfl) (by kernel_rfl) (by kernel_rfl) rfl (by kernel_rfl) rfl (by first | rfl | kernel_rfl)
    rfl rfl
    rfl (by kernel_rfl) (by kernel_rfl) (by kernel_rfl) (by decide) (by kernel_rfl) fnMarkSyntaxFeatureLogTable_row_tie
    (OpenClaim.moreEntering_of (by kernel_rfl) (by kernel_rfl) (by kernel_rfl) (by kernel_rfl) (by kernel_rfl) (by kernel_rfl) (by kernel_rfl) (by kernel_rfl) (by kernel_rfl) (by kernel_rfl))
    ⟨_, WideRow.started_initial, quiet _⟩
    (fun os started _ H enc _ => lifted os started H enc)
#print axioms proved
end Go.Proofs.YtkkkamniccgblaaFmt.fnMarkSyntaxFeatureLogTable
