/- Proved here: the contract of IsBinaryNullAndUndefined over operands of the four kinds, by what it answers. Conditions: the nodes' cells, as stated. -/
import Derived.Test.YtonhekaakddneaaRRRNF
import Derived.WalkKit
import Derived.WalkSpells
import Derived.WalkLawsBesides
import Derived.Lib.Hide
import Derived.Test.YtonhekaakddneaaRRRNA
import Derived.Test.YtonhekaakddneaaRRRNB
import Derived.Test.YtonhekaakddneaaRRRNC
import Derived.Test.YtonhekaakddneaaRRRND
import Derived.Test.YtonhekaakddneaaRRRNE
namespace Go.Proofs.YtonhekaakddneaaRRR.fnIsBinaryNullAndUndefinedExactShape
open Go.RowKit
set_option linter.unusedSimpArgs false
set_option linter.unusedVariables false

set_option maxRecDepth 100000 in
set_option maxHeartbeats 1000000 in
theorem f8_opL (bA bB : Nat) (opL opR op : Int) (L R L' R' : Value) (w : World) (hA : Bin w bA L 0 R 0 opL) (hB : Bin w bB L' 0 R' 0 opR) (hl : (opL == op) = false) :
    Calls Try.prog 8 #[.agg #[.iface 68 (.pointer (some ⟨bA, 0, none⟩)), .int .i32 0], .agg #[.iface 68 (.pointer (some ⟨bB, 0, none⟩)), .int .i32 0], .int .u8 op] w fun e w' => e = .returned (.tuple #[.agg #[.nilIface, .int .i32 0], .agg #[.nilIface, .int .i32 0], .bool false]) ∧ Below w.heap.size w w' := by
  have a4 := hA.2.2.2.2
  have hlt : bA < w.heap.size := World.block_lt_of_cell? _ _ a4
  have m1 : bA < w.heap.size + 1 := by omega
  have m2 : bA < w.heap.size + 1 + 1 := by omega
  have m3 : bA < w.heap.size + 1 + 1 + 1 := by omega
  clear hA hB
  go_enter Try.func8, Try.ntmps8
  go_wp2_with fail
  exact bodyPost_ret (v := .tuple #[.agg #[.nilIface, .int .i32 0], .agg #[.nilIface, .int .i32 0], .bool false]) (by simp [results, Try.results8, go_sem]) rfl ⟨rfl, (by repeat (first | with_reducible exact Below.refl _ _ | (with_reducible refine Below.alloc ?_ (by simp; try omega) _) | (with_reducible refine Below.setCell ?_ (by simp; try omega) _)))⟩
set_option maxRecDepth 100000 in
set_option maxHeartbeats 1000000 in
theorem f8_opR (bA bB : Nat) (opL opR op : Int) (L R L' R' : Value) (w : World) (hA : Bin w bA L 0 R 0 opL) (hB : Bin w bB L' 0 R' 0 opR) (hl : (opL == op) = true) (hr : (opR == op) = false) :
    Calls Try.prog 8 #[.agg #[.iface 68 (.pointer (some ⟨bA, 0, none⟩)), .int .i32 0], .agg #[.iface 68 (.pointer (some ⟨bB, 0, none⟩)), .int .i32 0], .int .u8 op] w fun e w' => e = .returned (.tuple #[.agg #[.nilIface, .int .i32 0], .agg #[.nilIface, .int .i32 0], .bool false]) ∧ Below w.heap.size w w' := by
  have a4 := hA.2.2.2.2
  have c4 := hB.2.2.2.2
  have hlt : bA < w.heap.size := World.block_lt_of_cell? _ _ a4
  have hltB : bB < w.heap.size := World.block_lt_of_cell? _ _ c4
  have m1 : bA < w.heap.size + 1 := by omega
  have m2 : bA < w.heap.size + 1 + 1 := by omega
  have m3 : bA < w.heap.size + 1 + 1 + 1 := by omega
  have k1 : bB < w.heap.size + 1 := by omega
  have k2 : bB < w.heap.size + 1 + 1 := by omega
  have k3 : bB < w.heap.size + 1 + 1 + 1 := by omega
  clear hA hB
  go_enter Try.func8, Try.ntmps8
  go_wp2_with fail
  exact bodyPost_ret (v := .tuple #[.agg #[.nilIface, .int .i32 0], .agg #[.nilIface, .int .i32 0], .bool false]) (by simp [results, Try.results8, go_sem]) rfl ⟨rfl, (by repeat (first | with_reducible exact Below.refl _ _ | (with_reducible refine Below.alloc ?_ (by simp; try omega) _) | (with_reducible refine Below.setCell ?_ (by simp; try omega) _)))⟩

theorem no_00 (n3 n4 : Nat) (r1 r2 r3 r4 : Int) (v1 v2 v3 v4 : Value) (bA bB : Nat) (opL opR op : Int) (w : World) (h1 : Opd w 0 r1 v1) (h2 : Opd w 0 r2 v2) (h3 : Opd w n3 r3 v3) (h4 : Opd w n4 r4 v4) (hA : Bin w bA v1 0 v2 0 opL) (hB : Bin w bB v3 0 v4 0 opR) (g3 : n3 < 4) (g4 : n4 < 4) (hl : (opL == op) = true) (hr : (opR == op) = true)
    (hw : (okS 0 0 && okS n3 n4 && (refS 0 0 r1 r2 == refS n3 n4 r3 r4) && (litS 0 0 != litS n3 n4)) = false) :
    Calls Try.prog 8 #[.agg #[.iface 68 (.pointer (some ⟨bA, 0, none⟩)), .int .i32 0], .agg #[.iface 68 (.pointer (some ⟨bB, 0, none⟩)), .int .i32 0], .int .u8 op] w fun e w' => e = .returned (.tuple #[.agg #[.nilIface, .int .i32 0], .agg #[.nilIface, .int .i32 0], .bool false]) ∧ Below w.heap.size w w' := by
  obtain ⟨x1, rfl, c1, _⟩ := h1
  obtain ⟨x2, rfl, c2, _⟩ := h2
  obtain ⟨x3, rfl, c3, _⟩ := h3
  obtain ⟨x4, rfl, c4, _⟩ := h4
  rcases n3 with _ | _ | _ | _ | n3
  case succ => omega
  · rcases n4 with _ | _ | _ | _ | n4
    case succ => omega
    · cases hrr : (r2 == r4)
      · exact cSS_df bA bB opL opR op 43 (some ⟨x1, 0, none⟩) x2 r2 43 (some ⟨x3, 0, none⟩) x4 r4 w (c2 rfl).1 (c2 rfl).2 (c4 rfl).1 (c4 rfl).2 hA hB hl hr hrr
      · exact cSS_ox bA bB opL opR op 43 (some ⟨x1, 0, none⟩) x2 r2 43 (some ⟨x3, 0, none⟩) x4 r4 w (by decide) (by decide) (c2 rfl).1 (c2 rfl).2 (c4 rfl).1 (c4 rfl).2 hA hB hl hr hrr
    · cases hrr : (r2 == r3)
      · exact cSF_df bA bB opL opR op 43 (some ⟨x1, 0, none⟩) x2 r2 x3 r3 82 (some ⟨x4, 0, none⟩) w (c2 rfl).1 (c2 rfl).2 (c3 rfl).1 (c3 rfl).2 (by decide) hA hB hl hr hrr
      · exact cSF_ox bA bB opL opR op 43 (some ⟨x1, 0, none⟩) x2 r2 x3 r3 82 (some ⟨x4, 0, none⟩) w (by decide) (by decide) (c2 rfl).1 (c2 rfl).2 (c3 rfl).1 (c3 rfl).2 (by decide) hA hB hl hr hrr
    · cases hrr : (r2 == r3)
      · exact cSF_df bA bB opL opR op 43 (some ⟨x1, 0, none⟩) x2 r2 x3 r3 84 (some ⟨x4, 0, none⟩) w (c2 rfl).1 (c2 rfl).2 (c3 rfl).1 (c3 rfl).2 (by decide) hA hB hl hr hrr
      · exact cSF_ox bA bB opL opR op 43 (some ⟨x1, 0, none⟩) x2 r2 x3 r3 84 (some ⟨x4, 0, none⟩) w (by decide) (by decide) (c2 rfl).1 (c2 rfl).2 (c3 rfl).1 (c3 rfl).2 (by decide) hA hB hl hr hrr
    · cases hrr : (r2 == r3)
      · exact cSF_df bA bB opL opR op 43 (some ⟨x1, 0, none⟩) x2 r2 x3 r3 94 (some ⟨x4, 0, none⟩) w (c2 rfl).1 (c2 rfl).2 (c3 rfl).1 (c3 rfl).2 (by decide) hA hB hl hr hrr
      · exact cSF_ox bA bB opL opR op 43 (some ⟨x1, 0, none⟩) x2 r2 x3 r3 94 (some ⟨x4, 0, none⟩) w (by decide) (by decide) (c2 rfl).1 (c2 rfl).2 (c3 rfl).1 (c3 rfl).2 (by decide) hA hB hl hr hrr
  · rcases n4 with _ | _ | _ | _ | n4
    case succ => omega
    · cases hrr : (r2 == r4)
      · exact cSS_df bA bB opL opR op 43 (some ⟨x1, 0, none⟩) x2 r2 82 (some ⟨x3, 0, none⟩) x4 r4 w (c2 rfl).1 (c2 rfl).2 (c4 rfl).1 (c4 rfl).2 hA hB hl hr hrr
      · exact cSS_ox bA bB opL opR op 43 (some ⟨x1, 0, none⟩) x2 r2 82 (some ⟨x3, 0, none⟩) x4 r4 w (by decide) (by decide) (c2 rfl).1 (c2 rfl).2 (c4 rfl).1 (c4 rfl).2 hA hB hl hr hrr
    · exact cS_N bA bB opL opR op 43 (some ⟨x1, 0, none⟩) x2 r2 82 (some ⟨x3, 0, none⟩) 82 (some ⟨x4, 0, none⟩) w (c2 rfl).1 (c2 rfl).2 (by decide) (by decide) hA hB hl hr
    · exact cS_N bA bB opL opR op 43 (some ⟨x1, 0, none⟩) x2 r2 82 (some ⟨x3, 0, none⟩) 84 (some ⟨x4, 0, none⟩) w (c2 rfl).1 (c2 rfl).2 (by decide) (by decide) hA hB hl hr
    · exact cS_N bA bB opL opR op 43 (some ⟨x1, 0, none⟩) x2 r2 82 (some ⟨x3, 0, none⟩) 94 (some ⟨x4, 0, none⟩) w (c2 rfl).1 (c2 rfl).2 (by decide) (by decide) hA hB hl hr
  · rcases n4 with _ | _ | _ | _ | n4
    case succ => omega
    · cases hrr : (r2 == r4)
      · exact cSS_df bA bB opL opR op 43 (some ⟨x1, 0, none⟩) x2 r2 84 (some ⟨x3, 0, none⟩) x4 r4 w (c2 rfl).1 (c2 rfl).2 (c4 rfl).1 (c4 rfl).2 hA hB hl hr hrr
      · exact cSS_ox bA bB opL opR op 43 (some ⟨x1, 0, none⟩) x2 r2 84 (some ⟨x3, 0, none⟩) x4 r4 w (by decide) (by decide) (c2 rfl).1 (c2 rfl).2 (c4 rfl).1 (c4 rfl).2 hA hB hl hr hrr
    · exact cS_N bA bB opL opR op 43 (some ⟨x1, 0, none⟩) x2 r2 84 (some ⟨x3, 0, none⟩) 82 (some ⟨x4, 0, none⟩) w (c2 rfl).1 (c2 rfl).2 (by decide) (by decide) hA hB hl hr
    · exact cS_N bA bB opL opR op 43 (some ⟨x1, 0, none⟩) x2 r2 84 (some ⟨x3, 0, none⟩) 84 (some ⟨x4, 0, none⟩) w (c2 rfl).1 (c2 rfl).2 (by decide) (by decide) hA hB hl hr
    · exact cS_N bA bB opL opR op 43 (some ⟨x1, 0, none⟩) x2 r2 84 (some ⟨x3, 0, none⟩) 94 (some ⟨x4, 0, none⟩) w (c2 rfl).1 (c2 rfl).2 (by decide) (by decide) hA hB hl hr
  · rcases n4 with _ | _ | _ | _ | n4
    case succ => omega
    · cases hrr : (r2 == r4)
      · exact cSS_df bA bB opL opR op 43 (some ⟨x1, 0, none⟩) x2 r2 94 (some ⟨x3, 0, none⟩) x4 r4 w (c2 rfl).1 (c2 rfl).2 (c4 rfl).1 (c4 rfl).2 hA hB hl hr hrr
      · exact cSS_ox bA bB opL opR op 43 (some ⟨x1, 0, none⟩) x2 r2 94 (some ⟨x3, 0, none⟩) x4 r4 w (by decide) (by decide) (c2 rfl).1 (c2 rfl).2 (c4 rfl).1 (c4 rfl).2 hA hB hl hr hrr
    · exact cS_N bA bB opL opR op 43 (some ⟨x1, 0, none⟩) x2 r2 94 (some ⟨x3, 0, none⟩) 82 (some ⟨x4, 0, none⟩) w (c2 rfl).1 (c2 rfl).2 (by decide) (by decide) hA hB hl hr
    · exact cS_N bA bB opL opR op 43 (some ⟨x1, 0, none⟩) x2 r2 94 (some ⟨x3, 0, none⟩) 84 (some ⟨x4, 0, none⟩) w (c2 rfl).1 (c2 rfl).2 (by decide) (by decide) hA hB hl hr
    · exact cS_N bA bB opL opR op 43 (some ⟨x1, 0, none⟩) x2 r2 94 (some ⟨x3, 0, none⟩) 94 (some ⟨x4, 0, none⟩) w (c2 rfl).1 (c2 rfl).2 (by decide) (by decide) hA hB hl hr

theorem no_01 (n3 n4 : Nat) (r1 r2 r3 r4 : Int) (v1 v2 v3 v4 : Value) (bA bB : Nat) (opL opR op : Int) (w : World) (h1 : Opd w 0 r1 v1) (h2 : Opd w 1 r2 v2) (h3 : Opd w n3 r3 v3) (h4 : Opd w n4 r4 v4) (hA : Bin w bA v1 0 v2 0 opL) (hB : Bin w bB v3 0 v4 0 opR) (g3 : n3 < 4) (g4 : n4 < 4) (hl : (opL == op) = true) (hr : (opR == op) = true)
    (hw : (okS 0 1 && okS n3 n4 && (refS 0 1 r1 r2 == refS n3 n4 r3 r4) && (litS 0 1 != litS n3 n4)) = false) :
    Calls Try.prog 8 #[.agg #[.iface 68 (.pointer (some ⟨bA, 0, none⟩)), .int .i32 0], .agg #[.iface 68 (.pointer (some ⟨bB, 0, none⟩)), .int .i32 0], .int .u8 op] w fun e w' => e = .returned (.tuple #[.agg #[.nilIface, .int .i32 0], .agg #[.nilIface, .int .i32 0], .bool false]) ∧ Below w.heap.size w w' := by
  obtain ⟨x1, rfl, c1, _⟩ := h1
  obtain ⟨x2, rfl, c2, _⟩ := h2
  obtain ⟨x3, rfl, c3, _⟩ := h3
  obtain ⟨x4, rfl, c4, _⟩ := h4
  rcases n3 with _ | _ | _ | _ | n3
  case succ => omega
  · rcases n4 with _ | _ | _ | _ | n4
    case succ => omega
    · cases hrr : (r1 == r4)
      · exact cFS_df bA bB opL opR op x1 r1 82 (some ⟨x2, 0, none⟩) 43 (some ⟨x3, 0, none⟩) x4 r4 w (c1 rfl).1 (c1 rfl).2 (by decide) (c4 rfl).1 (c4 rfl).2 hA hB hl hr hrr
      · exact cFS_nx bA bB opL opR op x1 r1 (some ⟨x2, 0, none⟩) 43 (some ⟨x3, 0, none⟩) x4 r4 w (c1 rfl).1 (c1 rfl).2 (by decide) (c4 rfl).1 (c4 rfl).2 hA hB hl hr hrr
    · cases hrr : (r1 == r3)
      · exact cFF_df bA bB opL opR op x1 r1 82 (some ⟨x2, 0, none⟩) x3 r3 82 (some ⟨x4, 0, none⟩) w (c1 rfl).1 (c1 rfl).2 (by decide) (c3 rfl).1 (c3 rfl).2 (by decide) hA hB hl hr hrr
      · exact cFF_nx bA bB opL opR op x1 r1 (some ⟨x2, 0, none⟩) x3 r3 82 (some ⟨x4, 0, none⟩) w (c1 rfl).1 (c1 rfl).2 (c3 rfl).1 (c3 rfl).2 (by decide) (by decide) hA hB hl hr hrr
    · have hrr : (r1 == r3) = false := by simpa [okS, refS, litS] using hw
      exact cFF_df bA bB opL opR op x1 r1 82 (some ⟨x2, 0, none⟩) x3 r3 84 (some ⟨x4, 0, none⟩) w (c1 rfl).1 (c1 rfl).2 (by decide) (c3 rfl).1 (c3 rfl).2 (by decide) hA hB hl hr hrr
    · cases hrr : (r1 == r3)
      · exact cFF_df bA bB opL opR op x1 r1 82 (some ⟨x2, 0, none⟩) x3 r3 94 (some ⟨x4, 0, none⟩) w (c1 rfl).1 (c1 rfl).2 (by decide) (c3 rfl).1 (c3 rfl).2 (by decide) hA hB hl hr hrr
      · exact cFF_nx bA bB opL opR op x1 r1 (some ⟨x2, 0, none⟩) x3 r3 94 (some ⟨x4, 0, none⟩) w (c1 rfl).1 (c1 rfl).2 (c3 rfl).1 (c3 rfl).2 (by decide) (by decide) hA hB hl hr hrr
  · rcases n4 with _ | _ | _ | _ | n4
    case succ => omega
    · cases hrr : (r1 == r4)
      · exact cFS_df bA bB opL opR op x1 r1 82 (some ⟨x2, 0, none⟩) 82 (some ⟨x3, 0, none⟩) x4 r4 w (c1 rfl).1 (c1 rfl).2 (by decide) (c4 rfl).1 (c4 rfl).2 hA hB hl hr hrr
      · exact cFS_nx bA bB opL opR op x1 r1 (some ⟨x2, 0, none⟩) 82 (some ⟨x3, 0, none⟩) x4 r4 w (c1 rfl).1 (c1 rfl).2 (by decide) (c4 rfl).1 (c4 rfl).2 hA hB hl hr hrr
    · exact cF_N bA bB opL opR op x1 r1 82 (some ⟨x2, 0, none⟩) 82 (some ⟨x3, 0, none⟩) 82 (some ⟨x4, 0, none⟩) w (c1 rfl).1 (c1 rfl).2 (by decide) (by decide) (by decide) hA hB hl hr
    · exact cF_N bA bB opL opR op x1 r1 82 (some ⟨x2, 0, none⟩) 82 (some ⟨x3, 0, none⟩) 84 (some ⟨x4, 0, none⟩) w (c1 rfl).1 (c1 rfl).2 (by decide) (by decide) (by decide) hA hB hl hr
    · exact cF_N bA bB opL opR op x1 r1 82 (some ⟨x2, 0, none⟩) 82 (some ⟨x3, 0, none⟩) 94 (some ⟨x4, 0, none⟩) w (c1 rfl).1 (c1 rfl).2 (by decide) (by decide) (by decide) hA hB hl hr
  · rcases n4 with _ | _ | _ | _ | n4
    case succ => omega
    · have hrr : (r1 == r4) = false := by simpa [okS, refS, litS] using hw
      exact cFS_df bA bB opL opR op x1 r1 82 (some ⟨x2, 0, none⟩) 84 (some ⟨x3, 0, none⟩) x4 r4 w (c1 rfl).1 (c1 rfl).2 (by decide) (c4 rfl).1 (c4 rfl).2 hA hB hl hr hrr
    · exact cF_N bA bB opL opR op x1 r1 82 (some ⟨x2, 0, none⟩) 84 (some ⟨x3, 0, none⟩) 82 (some ⟨x4, 0, none⟩) w (c1 rfl).1 (c1 rfl).2 (by decide) (by decide) (by decide) hA hB hl hr
    · exact cF_N bA bB opL opR op x1 r1 82 (some ⟨x2, 0, none⟩) 84 (some ⟨x3, 0, none⟩) 84 (some ⟨x4, 0, none⟩) w (c1 rfl).1 (c1 rfl).2 (by decide) (by decide) (by decide) hA hB hl hr
    · exact cF_N bA bB opL opR op x1 r1 82 (some ⟨x2, 0, none⟩) 84 (some ⟨x3, 0, none⟩) 94 (some ⟨x4, 0, none⟩) w (c1 rfl).1 (c1 rfl).2 (by decide) (by decide) (by decide) hA hB hl hr
  · rcases n4 with _ | _ | _ | _ | n4
    case succ => omega
    · cases hrr : (r1 == r4)
      · exact cFS_df bA bB opL opR op x1 r1 82 (some ⟨x2, 0, none⟩) 94 (some ⟨x3, 0, none⟩) x4 r4 w (c1 rfl).1 (c1 rfl).2 (by decide) (c4 rfl).1 (c4 rfl).2 hA hB hl hr hrr
      · exact cFS_nx bA bB opL opR op x1 r1 (some ⟨x2, 0, none⟩) 94 (some ⟨x3, 0, none⟩) x4 r4 w (c1 rfl).1 (c1 rfl).2 (by decide) (c4 rfl).1 (c4 rfl).2 hA hB hl hr hrr
    · exact cF_N bA bB opL opR op x1 r1 82 (some ⟨x2, 0, none⟩) 94 (some ⟨x3, 0, none⟩) 82 (some ⟨x4, 0, none⟩) w (c1 rfl).1 (c1 rfl).2 (by decide) (by decide) (by decide) hA hB hl hr
    · exact cF_N bA bB opL opR op x1 r1 82 (some ⟨x2, 0, none⟩) 94 (some ⟨x3, 0, none⟩) 84 (some ⟨x4, 0, none⟩) w (c1 rfl).1 (c1 rfl).2 (by decide) (by decide) (by decide) hA hB hl hr
    · exact cF_N bA bB opL opR op x1 r1 82 (some ⟨x2, 0, none⟩) 94 (some ⟨x3, 0, none⟩) 94 (some ⟨x4, 0, none⟩) w (c1 rfl).1 (c1 rfl).2 (by decide) (by decide) (by decide) hA hB hl hr

theorem no_02 (n3 n4 : Nat) (r1 r2 r3 r4 : Int) (v1 v2 v3 v4 : Value) (bA bB : Nat) (opL opR op : Int) (w : World) (h1 : Opd w 0 r1 v1) (h2 : Opd w 2 r2 v2) (h3 : Opd w n3 r3 v3) (h4 : Opd w n4 r4 v4) (hA : Bin w bA v1 0 v2 0 opL) (hB : Bin w bB v3 0 v4 0 opR) (g3 : n3 < 4) (g4 : n4 < 4) (hl : (opL == op) = true) (hr : (opR == op) = true)
    (hw : (okS 0 2 && okS n3 n4 && (refS 0 2 r1 r2 == refS n3 n4 r3 r4) && (litS 0 2 != litS n3 n4)) = false) :
    Calls Try.prog 8 #[.agg #[.iface 68 (.pointer (some ⟨bA, 0, none⟩)), .int .i32 0], .agg #[.iface 68 (.pointer (some ⟨bB, 0, none⟩)), .int .i32 0], .int .u8 op] w fun e w' => e = .returned (.tuple #[.agg #[.nilIface, .int .i32 0], .agg #[.nilIface, .int .i32 0], .bool false]) ∧ Below w.heap.size w w' := by
  obtain ⟨x1, rfl, c1, _⟩ := h1
  obtain ⟨x2, rfl, c2, _⟩ := h2
  obtain ⟨x3, rfl, c3, _⟩ := h3
  obtain ⟨x4, rfl, c4, _⟩ := h4
  rcases n3 with _ | _ | _ | _ | n3
  case succ => omega
  · rcases n4 with _ | _ | _ | _ | n4
    case succ => omega
    · cases hrr : (r1 == r4)
      · exact cFS_df bA bB opL opR op x1 r1 84 (some ⟨x2, 0, none⟩) 43 (some ⟨x3, 0, none⟩) x4 r4 w (c1 rfl).1 (c1 rfl).2 (by decide) (c4 rfl).1 (c4 rfl).2 hA hB hl hr hrr
      · exact cFS_ux bA bB opL opR op x1 r1 (some ⟨x2, 0, none⟩) 43 (some ⟨x3, 0, none⟩) x4 r4 w (c1 rfl).1 (c1 rfl).2 (by decide) (c4 rfl).1 (c4 rfl).2 hA hB hl hr hrr
    · have hrr : (r1 == r3) = false := by simpa [okS, refS, litS] using hw
      exact cFF_df bA bB opL opR op x1 r1 84 (some ⟨x2, 0, none⟩) x3 r3 82 (some ⟨x4, 0, none⟩) w (c1 rfl).1 (c1 rfl).2 (by decide) (c3 rfl).1 (c3 rfl).2 (by decide) hA hB hl hr hrr
    · cases hrr : (r1 == r3)
      · exact cFF_df bA bB opL opR op x1 r1 84 (some ⟨x2, 0, none⟩) x3 r3 84 (some ⟨x4, 0, none⟩) w (c1 rfl).1 (c1 rfl).2 (by decide) (c3 rfl).1 (c3 rfl).2 (by decide) hA hB hl hr hrr
      · exact cFF_ux bA bB opL opR op x1 r1 (some ⟨x2, 0, none⟩) x3 r3 84 (some ⟨x4, 0, none⟩) w (c1 rfl).1 (c1 rfl).2 (c3 rfl).1 (c3 rfl).2 (by decide) (by decide) hA hB hl hr hrr
    · cases hrr : (r1 == r3)
      · exact cFF_df bA bB opL opR op x1 r1 84 (some ⟨x2, 0, none⟩) x3 r3 94 (some ⟨x4, 0, none⟩) w (c1 rfl).1 (c1 rfl).2 (by decide) (c3 rfl).1 (c3 rfl).2 (by decide) hA hB hl hr hrr
      · exact cFF_ux bA bB opL opR op x1 r1 (some ⟨x2, 0, none⟩) x3 r3 94 (some ⟨x4, 0, none⟩) w (c1 rfl).1 (c1 rfl).2 (c3 rfl).1 (c3 rfl).2 (by decide) (by decide) hA hB hl hr hrr
  · rcases n4 with _ | _ | _ | _ | n4
    case succ => omega
    · have hrr : (r1 == r4) = false := by simpa [okS, refS, litS] using hw
      exact cFS_df bA bB opL opR op x1 r1 84 (some ⟨x2, 0, none⟩) 82 (some ⟨x3, 0, none⟩) x4 r4 w (c1 rfl).1 (c1 rfl).2 (by decide) (c4 rfl).1 (c4 rfl).2 hA hB hl hr hrr
    · exact cF_N bA bB opL opR op x1 r1 84 (some ⟨x2, 0, none⟩) 82 (some ⟨x3, 0, none⟩) 82 (some ⟨x4, 0, none⟩) w (c1 rfl).1 (c1 rfl).2 (by decide) (by decide) (by decide) hA hB hl hr
    · exact cF_N bA bB opL opR op x1 r1 84 (some ⟨x2, 0, none⟩) 82 (some ⟨x3, 0, none⟩) 84 (some ⟨x4, 0, none⟩) w (c1 rfl).1 (c1 rfl).2 (by decide) (by decide) (by decide) hA hB hl hr
    · exact cF_N bA bB opL opR op x1 r1 84 (some ⟨x2, 0, none⟩) 82 (some ⟨x3, 0, none⟩) 94 (some ⟨x4, 0, none⟩) w (c1 rfl).1 (c1 rfl).2 (by decide) (by decide) (by decide) hA hB hl hr
  · rcases n4 with _ | _ | _ | _ | n4
    case succ => omega
    · cases hrr : (r1 == r4)
      · exact cFS_df bA bB opL opR op x1 r1 84 (some ⟨x2, 0, none⟩) 84 (some ⟨x3, 0, none⟩) x4 r4 w (c1 rfl).1 (c1 rfl).2 (by decide) (c4 rfl).1 (c4 rfl).2 hA hB hl hr hrr
      · exact cFS_ux bA bB opL opR op x1 r1 (some ⟨x2, 0, none⟩) 84 (some ⟨x3, 0, none⟩) x4 r4 w (c1 rfl).1 (c1 rfl).2 (by decide) (c4 rfl).1 (c4 rfl).2 hA hB hl hr hrr
    · exact cF_N bA bB opL opR op x1 r1 84 (some ⟨x2, 0, none⟩) 84 (some ⟨x3, 0, none⟩) 82 (some ⟨x4, 0, none⟩) w (c1 rfl).1 (c1 rfl).2 (by decide) (by decide) (by decide) hA hB hl hr
    · exact cF_N bA bB opL opR op x1 r1 84 (some ⟨x2, 0, none⟩) 84 (some ⟨x3, 0, none⟩) 84 (some ⟨x4, 0, none⟩) w (c1 rfl).1 (c1 rfl).2 (by decide) (by decide) (by decide) hA hB hl hr
    · exact cF_N bA bB opL opR op x1 r1 84 (some ⟨x2, 0, none⟩) 84 (some ⟨x3, 0, none⟩) 94 (some ⟨x4, 0, none⟩) w (c1 rfl).1 (c1 rfl).2 (by decide) (by decide) (by decide) hA hB hl hr
  · rcases n4 with _ | _ | _ | _ | n4
    case succ => omega
    · cases hrr : (r1 == r4)
      · exact cFS_df bA bB opL opR op x1 r1 84 (some ⟨x2, 0, none⟩) 94 (some ⟨x3, 0, none⟩) x4 r4 w (c1 rfl).1 (c1 rfl).2 (by decide) (c4 rfl).1 (c4 rfl).2 hA hB hl hr hrr
      · exact cFS_ux bA bB opL opR op x1 r1 (some ⟨x2, 0, none⟩) 94 (some ⟨x3, 0, none⟩) x4 r4 w (c1 rfl).1 (c1 rfl).2 (by decide) (c4 rfl).1 (c4 rfl).2 hA hB hl hr hrr
    · exact cF_N bA bB opL opR op x1 r1 84 (some ⟨x2, 0, none⟩) 94 (some ⟨x3, 0, none⟩) 82 (some ⟨x4, 0, none⟩) w (c1 rfl).1 (c1 rfl).2 (by decide) (by decide) (by decide) hA hB hl hr
    · exact cF_N bA bB opL opR op x1 r1 84 (some ⟨x2, 0, none⟩) 94 (some ⟨x3, 0, none⟩) 84 (some ⟨x4, 0, none⟩) w (c1 rfl).1 (c1 rfl).2 (by decide) (by decide) (by decide) hA hB hl hr
    · exact cF_N bA bB opL opR op x1 r1 84 (some ⟨x2, 0, none⟩) 94 (some ⟨x3, 0, none⟩) 94 (some ⟨x4, 0, none⟩) w (c1 rfl).1 (c1 rfl).2 (by decide) (by decide) (by decide) hA hB hl hr

theorem no_03 (n3 n4 : Nat) (r1 r2 r3 r4 : Int) (v1 v2 v3 v4 : Value) (bA bB : Nat) (opL opR op : Int) (w : World) (h1 : Opd w 0 r1 v1) (h2 : Opd w 3 r2 v2) (h3 : Opd w n3 r3 v3) (h4 : Opd w n4 r4 v4) (hA : Bin w bA v1 0 v2 0 opL) (hB : Bin w bB v3 0 v4 0 opR) (g3 : n3 < 4) (g4 : n4 < 4) (hl : (opL == op) = true) (hr : (opR == op) = true)
    (hw : (okS 0 3 && okS n3 n4 && (refS 0 3 r1 r2 == refS n3 n4 r3 r4) && (litS 0 3 != litS n3 n4)) = false) :
    Calls Try.prog 8 #[.agg #[.iface 68 (.pointer (some ⟨bA, 0, none⟩)), .int .i32 0], .agg #[.iface 68 (.pointer (some ⟨bB, 0, none⟩)), .int .i32 0], .int .u8 op] w fun e w' => e = .returned (.tuple #[.agg #[.nilIface, .int .i32 0], .agg #[.nilIface, .int .i32 0], .bool false]) ∧ Below w.heap.size w w' := by
  obtain ⟨x1, rfl, c1, _⟩ := h1
  obtain ⟨x2, rfl, c2, _⟩ := h2
  obtain ⟨x3, rfl, c3, _⟩ := h3
  obtain ⟨x4, rfl, c4, _⟩ := h4
  rcases n3 with _ | _ | _ | _ | n3
  case succ => omega
  · rcases n4 with _ | _ | _ | _ | n4
    case succ => omega
    · cases hrr : (r1 == r4)
      · exact cFS_df bA bB opL opR op x1 r1 94 (some ⟨x2, 0, none⟩) 43 (some ⟨x3, 0, none⟩) x4 r4 w (c1 rfl).1 (c1 rfl).2 (by decide) (c4 rfl).1 (c4 rfl).2 hA hB hl hr hrr
      · exact cFS_ox bA bB opL opR op x1 r1 94 (some ⟨x2, 0, none⟩) 43 (some ⟨x3, 0, none⟩) x4 r4 w (c1 rfl).1 (c1 rfl).2 (by decide) (by decide) (by decide) (c4 rfl).1 (c4 rfl).2 hA hB hl hr hrr
    · cases hrr : (r1 == r3)
      · exact cFF_df bA bB opL opR op x1 r1 94 (some ⟨x2, 0, none⟩) x3 r3 82 (some ⟨x4, 0, none⟩) w (c1 rfl).1 (c1 rfl).2 (by decide) (c3 rfl).1 (c3 rfl).2 (by decide) hA hB hl hr hrr
      · exact cFF_ox bA bB opL opR op x1 r1 94 (some ⟨x2, 0, none⟩) x3 r3 82 (some ⟨x4, 0, none⟩) w (c1 rfl).1 (c1 rfl).2 (by decide) (by decide) (by decide) (c3 rfl).1 (c3 rfl).2 (by decide) hA hB hl hr hrr
    · cases hrr : (r1 == r3)
      · exact cFF_df bA bB opL opR op x1 r1 94 (some ⟨x2, 0, none⟩) x3 r3 84 (some ⟨x4, 0, none⟩) w (c1 rfl).1 (c1 rfl).2 (by decide) (c3 rfl).1 (c3 rfl).2 (by decide) hA hB hl hr hrr
      · exact cFF_ox bA bB opL opR op x1 r1 94 (some ⟨x2, 0, none⟩) x3 r3 84 (some ⟨x4, 0, none⟩) w (c1 rfl).1 (c1 rfl).2 (by decide) (by decide) (by decide) (c3 rfl).1 (c3 rfl).2 (by decide) hA hB hl hr hrr
    · cases hrr : (r1 == r3)
      · exact cFF_df bA bB opL opR op x1 r1 94 (some ⟨x2, 0, none⟩) x3 r3 94 (some ⟨x4, 0, none⟩) w (c1 rfl).1 (c1 rfl).2 (by decide) (c3 rfl).1 (c3 rfl).2 (by decide) hA hB hl hr hrr
      · exact cFF_ox bA bB opL opR op x1 r1 94 (some ⟨x2, 0, none⟩) x3 r3 94 (some ⟨x4, 0, none⟩) w (c1 rfl).1 (c1 rfl).2 (by decide) (by decide) (by decide) (c3 rfl).1 (c3 rfl).2 (by decide) hA hB hl hr hrr
  · rcases n4 with _ | _ | _ | _ | n4
    case succ => omega
    · cases hrr : (r1 == r4)
      · exact cFS_df bA bB opL opR op x1 r1 94 (some ⟨x2, 0, none⟩) 82 (some ⟨x3, 0, none⟩) x4 r4 w (c1 rfl).1 (c1 rfl).2 (by decide) (c4 rfl).1 (c4 rfl).2 hA hB hl hr hrr
      · exact cFS_ox bA bB opL opR op x1 r1 94 (some ⟨x2, 0, none⟩) 82 (some ⟨x3, 0, none⟩) x4 r4 w (c1 rfl).1 (c1 rfl).2 (by decide) (by decide) (by decide) (c4 rfl).1 (c4 rfl).2 hA hB hl hr hrr
    · exact cF_N bA bB opL opR op x1 r1 94 (some ⟨x2, 0, none⟩) 82 (some ⟨x3, 0, none⟩) 82 (some ⟨x4, 0, none⟩) w (c1 rfl).1 (c1 rfl).2 (by decide) (by decide) (by decide) hA hB hl hr
    · exact cF_N bA bB opL opR op x1 r1 94 (some ⟨x2, 0, none⟩) 82 (some ⟨x3, 0, none⟩) 84 (some ⟨x4, 0, none⟩) w (c1 rfl).1 (c1 rfl).2 (by decide) (by decide) (by decide) hA hB hl hr
    · exact cF_N bA bB opL opR op x1 r1 94 (some ⟨x2, 0, none⟩) 82 (some ⟨x3, 0, none⟩) 94 (some ⟨x4, 0, none⟩) w (c1 rfl).1 (c1 rfl).2 (by decide) (by decide) (by decide) hA hB hl hr
  · rcases n4 with _ | _ | _ | _ | n4
    case succ => omega
    · cases hrr : (r1 == r4)
      · exact cFS_df bA bB opL opR op x1 r1 94 (some ⟨x2, 0, none⟩) 84 (some ⟨x3, 0, none⟩) x4 r4 w (c1 rfl).1 (c1 rfl).2 (by decide) (c4 rfl).1 (c4 rfl).2 hA hB hl hr hrr
      · exact cFS_ox bA bB opL opR op x1 r1 94 (some ⟨x2, 0, none⟩) 84 (some ⟨x3, 0, none⟩) x4 r4 w (c1 rfl).1 (c1 rfl).2 (by decide) (by decide) (by decide) (c4 rfl).1 (c4 rfl).2 hA hB hl hr hrr
    · exact cF_N bA bB opL opR op x1 r1 94 (some ⟨x2, 0, none⟩) 84 (some ⟨x3, 0, none⟩) 82 (some ⟨x4, 0, none⟩) w (c1 rfl).1 (c1 rfl).2 (by decide) (by decide) (by decide) hA hB hl hr
    · exact cF_N bA bB opL opR op x1 r1 94 (some ⟨x2, 0, none⟩) 84 (some ⟨x3, 0, none⟩) 84 (some ⟨x4, 0, none⟩) w (c1 rfl).1 (c1 rfl).2 (by decide) (by decide) (by decide) hA hB hl hr
    · exact cF_N bA bB opL opR op x1 r1 94 (some ⟨x2, 0, none⟩) 84 (some ⟨x3, 0, none⟩) 94 (some ⟨x4, 0, none⟩) w (c1 rfl).1 (c1 rfl).2 (by decide) (by decide) (by decide) hA hB hl hr
  · rcases n4 with _ | _ | _ | _ | n4
    case succ => omega
    · cases hrr : (r1 == r4)
      · exact cFS_df bA bB opL opR op x1 r1 94 (some ⟨x2, 0, none⟩) 94 (some ⟨x3, 0, none⟩) x4 r4 w (c1 rfl).1 (c1 rfl).2 (by decide) (c4 rfl).1 (c4 rfl).2 hA hB hl hr hrr
      · exact cFS_ox bA bB opL opR op x1 r1 94 (some ⟨x2, 0, none⟩) 94 (some ⟨x3, 0, none⟩) x4 r4 w (c1 rfl).1 (c1 rfl).2 (by decide) (by decide) (by decide) (c4 rfl).1 (c4 rfl).2 hA hB hl hr hrr
    · exact cF_N bA bB opL opR op x1 r1 94 (some ⟨x2, 0, none⟩) 94 (some ⟨x3, 0, none⟩) 82 (some ⟨x4, 0, none⟩) w (c1 rfl).1 (c1 rfl).2 (by decide) (by decide) (by decide) hA hB hl hr
    · exact cF_N bA bB opL opR op x1 r1 94 (some ⟨x2, 0, none⟩) 94 (some ⟨x3, 0, none⟩) 84 (some ⟨x4, 0, none⟩) w (c1 rfl).1 (c1 rfl).2 (by decide) (by decide) (by decide) hA hB hl hr
    · exact cF_N bA bB opL opR op x1 r1 94 (some ⟨x2, 0, none⟩) 94 (some ⟨x3, 0, none⟩) 94 (some ⟨x4, 0, none⟩) w (c1 rfl).1 (c1 rfl).2 (by decide) (by decide) (by decide) hA hB hl hr

theorem no_10 (n3 n4 : Nat) (r1 r2 r3 r4 : Int) (v1 v2 v3 v4 : Value) (bA bB : Nat) (opL opR op : Int) (w : World) (h1 : Opd w 1 r1 v1) (h2 : Opd w 0 r2 v2) (h3 : Opd w n3 r3 v3) (h4 : Opd w n4 r4 v4) (hA : Bin w bA v1 0 v2 0 opL) (hB : Bin w bB v3 0 v4 0 opR) (g3 : n3 < 4) (g4 : n4 < 4) (hl : (opL == op) = true) (hr : (opR == op) = true)
    (hw : (okS 1 0 && okS n3 n4 && (refS 1 0 r1 r2 == refS n3 n4 r3 r4) && (litS 1 0 != litS n3 n4)) = false) :
    Calls Try.prog 8 #[.agg #[.iface 68 (.pointer (some ⟨bA, 0, none⟩)), .int .i32 0], .agg #[.iface 68 (.pointer (some ⟨bB, 0, none⟩)), .int .i32 0], .int .u8 op] w fun e w' => e = .returned (.tuple #[.agg #[.nilIface, .int .i32 0], .agg #[.nilIface, .int .i32 0], .bool false]) ∧ Below w.heap.size w w' := by
  obtain ⟨x1, rfl, c1, _⟩ := h1
  obtain ⟨x2, rfl, c2, _⟩ := h2
  obtain ⟨x3, rfl, c3, _⟩ := h3
  obtain ⟨x4, rfl, c4, _⟩ := h4
  rcases n3 with _ | _ | _ | _ | n3
  case succ => omega
  · rcases n4 with _ | _ | _ | _ | n4
    case succ => omega
    · cases hrr : (r2 == r4)
      · exact cSS_df bA bB opL opR op 82 (some ⟨x1, 0, none⟩) x2 r2 43 (some ⟨x3, 0, none⟩) x4 r4 w (c2 rfl).1 (c2 rfl).2 (c4 rfl).1 (c4 rfl).2 hA hB hl hr hrr
      · exact cSS_nx bA bB opL opR op (some ⟨x1, 0, none⟩) x2 r2 43 (some ⟨x3, 0, none⟩) x4 r4 w (c2 rfl).1 (c2 rfl).2 (by decide) (c4 rfl).1 (c4 rfl).2 hA hB hl hr hrr
    · cases hrr : (r2 == r3)
      · exact cSF_df bA bB opL opR op 82 (some ⟨x1, 0, none⟩) x2 r2 x3 r3 82 (some ⟨x4, 0, none⟩) w (c2 rfl).1 (c2 rfl).2 (c3 rfl).1 (c3 rfl).2 (by decide) hA hB hl hr hrr
      · exact cSF_nx bA bB opL opR op (some ⟨x1, 0, none⟩) x2 r2 x3 r3 82 (some ⟨x4, 0, none⟩) w (c2 rfl).1 (c2 rfl).2 (c3 rfl).1 (c3 rfl).2 (by decide) (by decide) hA hB hl hr hrr
    · have hrr : (r2 == r3) = false := by simpa [okS, refS, litS] using hw
      exact cSF_df bA bB opL opR op 82 (some ⟨x1, 0, none⟩) x2 r2 x3 r3 84 (some ⟨x4, 0, none⟩) w (c2 rfl).1 (c2 rfl).2 (c3 rfl).1 (c3 rfl).2 (by decide) hA hB hl hr hrr
    · cases hrr : (r2 == r3)
      · exact cSF_df bA bB opL opR op 82 (some ⟨x1, 0, none⟩) x2 r2 x3 r3 94 (some ⟨x4, 0, none⟩) w (c2 rfl).1 (c2 rfl).2 (c3 rfl).1 (c3 rfl).2 (by decide) hA hB hl hr hrr
      · exact cSF_nx bA bB opL opR op (some ⟨x1, 0, none⟩) x2 r2 x3 r3 94 (some ⟨x4, 0, none⟩) w (c2 rfl).1 (c2 rfl).2 (c3 rfl).1 (c3 rfl).2 (by decide) (by decide) hA hB hl hr hrr
  · rcases n4 with _ | _ | _ | _ | n4
    case succ => omega
    · cases hrr : (r2 == r4)
      · exact cSS_df bA bB opL opR op 82 (some ⟨x1, 0, none⟩) x2 r2 82 (some ⟨x3, 0, none⟩) x4 r4 w (c2 rfl).1 (c2 rfl).2 (c4 rfl).1 (c4 rfl).2 hA hB hl hr hrr
      · exact cSS_nx bA bB opL opR op (some ⟨x1, 0, none⟩) x2 r2 82 (some ⟨x3, 0, none⟩) x4 r4 w (c2 rfl).1 (c2 rfl).2 (by decide) (c4 rfl).1 (c4 rfl).2 hA hB hl hr hrr
    · exact cS_N bA bB opL opR op 82 (some ⟨x1, 0, none⟩) x2 r2 82 (some ⟨x3, 0, none⟩) 82 (some ⟨x4, 0, none⟩) w (c2 rfl).1 (c2 rfl).2 (by decide) (by decide) hA hB hl hr
    · exact cS_N bA bB opL opR op 82 (some ⟨x1, 0, none⟩) x2 r2 82 (some ⟨x3, 0, none⟩) 84 (some ⟨x4, 0, none⟩) w (c2 rfl).1 (c2 rfl).2 (by decide) (by decide) hA hB hl hr
    · exact cS_N bA bB opL opR op 82 (some ⟨x1, 0, none⟩) x2 r2 82 (some ⟨x3, 0, none⟩) 94 (some ⟨x4, 0, none⟩) w (c2 rfl).1 (c2 rfl).2 (by decide) (by decide) hA hB hl hr
  · rcases n4 with _ | _ | _ | _ | n4
    case succ => omega
    · have hrr : (r2 == r4) = false := by simpa [okS, refS, litS] using hw
      exact cSS_df bA bB opL opR op 82 (some ⟨x1, 0, none⟩) x2 r2 84 (some ⟨x3, 0, none⟩) x4 r4 w (c2 rfl).1 (c2 rfl).2 (c4 rfl).1 (c4 rfl).2 hA hB hl hr hrr
    · exact cS_N bA bB opL opR op 82 (some ⟨x1, 0, none⟩) x2 r2 84 (some ⟨x3, 0, none⟩) 82 (some ⟨x4, 0, none⟩) w (c2 rfl).1 (c2 rfl).2 (by decide) (by decide) hA hB hl hr
    · exact cS_N bA bB opL opR op 82 (some ⟨x1, 0, none⟩) x2 r2 84 (some ⟨x3, 0, none⟩) 84 (some ⟨x4, 0, none⟩) w (c2 rfl).1 (c2 rfl).2 (by decide) (by decide) hA hB hl hr
    · exact cS_N bA bB opL opR op 82 (some ⟨x1, 0, none⟩) x2 r2 84 (some ⟨x3, 0, none⟩) 94 (some ⟨x4, 0, none⟩) w (c2 rfl).1 (c2 rfl).2 (by decide) (by decide) hA hB hl hr
  · rcases n4 with _ | _ | _ | _ | n4
    case succ => omega
    · cases hrr : (r2 == r4)
      · exact cSS_df bA bB opL opR op 82 (some ⟨x1, 0, none⟩) x2 r2 94 (some ⟨x3, 0, none⟩) x4 r4 w (c2 rfl).1 (c2 rfl).2 (c4 rfl).1 (c4 rfl).2 hA hB hl hr hrr
      · exact cSS_nx bA bB opL opR op (some ⟨x1, 0, none⟩) x2 r2 94 (some ⟨x3, 0, none⟩) x4 r4 w (c2 rfl).1 (c2 rfl).2 (by decide) (c4 rfl).1 (c4 rfl).2 hA hB hl hr hrr
    · exact cS_N bA bB opL opR op 82 (some ⟨x1, 0, none⟩) x2 r2 94 (some ⟨x3, 0, none⟩) 82 (some ⟨x4, 0, none⟩) w (c2 rfl).1 (c2 rfl).2 (by decide) (by decide) hA hB hl hr
    · exact cS_N bA bB opL opR op 82 (some ⟨x1, 0, none⟩) x2 r2 94 (some ⟨x3, 0, none⟩) 84 (some ⟨x4, 0, none⟩) w (c2 rfl).1 (c2 rfl).2 (by decide) (by decide) hA hB hl hr
    · exact cS_N bA bB opL opR op 82 (some ⟨x1, 0, none⟩) x2 r2 94 (some ⟨x3, 0, none⟩) 94 (some ⟨x4, 0, none⟩) w (c2 rfl).1 (c2 rfl).2 (by decide) (by decide) hA hB hl hr

theorem no_11 (n3 n4 : Nat) (r1 r2 r3 r4 : Int) (v1 v2 v3 v4 : Value) (bA bB : Nat) (opL opR op : Int) (w : World) (h1 : Opd w 1 r1 v1) (h2 : Opd w 1 r2 v2) (h3 : Opd w n3 r3 v3) (h4 : Opd w n4 r4 v4) (hA : Bin w bA v1 0 v2 0 opL) (hB : Bin w bB v3 0 v4 0 opR) (g3 : n3 < 4) (g4 : n4 < 4) (hl : (opL == op) = true) (hr : (opR == op) = true)
    (hw : (okS 1 1 && okS n3 n4 && (refS 1 1 r1 r2 == refS n3 n4 r3 r4) && (litS 1 1 != litS n3 n4)) = false) :
    Calls Try.prog 8 #[.agg #[.iface 68 (.pointer (some ⟨bA, 0, none⟩)), .int .i32 0], .agg #[.iface 68 (.pointer (some ⟨bB, 0, none⟩)), .int .i32 0], .int .u8 op] w fun e w' => e = .returned (.tuple #[.agg #[.nilIface, .int .i32 0], .agg #[.nilIface, .int .i32 0], .bool false]) ∧ Below w.heap.size w w' := by
  obtain ⟨x1, rfl, c1, _⟩ := h1
  obtain ⟨x2, rfl, c2, _⟩ := h2
  obtain ⟨x3, rfl, c3, _⟩ := h3
  obtain ⟨x4, rfl, c4, _⟩ := h4
  rcases n3 with _ | _ | _ | _ | n3
  case succ => omega
  · rcases n4 with _ | _ | _ | _ | n4
    case succ => omega
    · exact cN_S bA bB opL opR op 82 (some ⟨x1, 0, none⟩) 82 (some ⟨x2, 0, none⟩) 43 (some ⟨x3, 0, none⟩) x4 r4 w (by decide) (by decide) (c4 rfl).1 (c4 rfl).2 hA hB hl hr
    · exact cN_F bA bB opL opR op 82 (some ⟨x1, 0, none⟩) 82 (some ⟨x2, 0, none⟩) 43 (some ⟨x3, 0, none⟩) 82 (some ⟨x4, 0, none⟩) w (by decide) (by decide) (by decide) hA hB hl hr
    · exact cN_F bA bB opL opR op 82 (some ⟨x1, 0, none⟩) 82 (some ⟨x2, 0, none⟩) 43 (some ⟨x3, 0, none⟩) 84 (some ⟨x4, 0, none⟩) w (by decide) (by decide) (by decide) hA hB hl hr
    · exact cN_F bA bB opL opR op 82 (some ⟨x1, 0, none⟩) 82 (some ⟨x2, 0, none⟩) 43 (some ⟨x3, 0, none⟩) 94 (some ⟨x4, 0, none⟩) w (by decide) (by decide) (by decide) hA hB hl hr
  · rcases n4 with _ | _ | _ | _ | n4
    case succ => omega
    · exact cN_S bA bB opL opR op 82 (some ⟨x1, 0, none⟩) 82 (some ⟨x2, 0, none⟩) 82 (some ⟨x3, 0, none⟩) x4 r4 w (by decide) (by decide) (c4 rfl).1 (c4 rfl).2 hA hB hl hr
    · exact cN_F bA bB opL opR op 82 (some ⟨x1, 0, none⟩) 82 (some ⟨x2, 0, none⟩) 82 (some ⟨x3, 0, none⟩) 82 (some ⟨x4, 0, none⟩) w (by decide) (by decide) (by decide) hA hB hl hr
    · exact cN_F bA bB opL opR op 82 (some ⟨x1, 0, none⟩) 82 (some ⟨x2, 0, none⟩) 82 (some ⟨x3, 0, none⟩) 84 (some ⟨x4, 0, none⟩) w (by decide) (by decide) (by decide) hA hB hl hr
    · exact cN_F bA bB opL opR op 82 (some ⟨x1, 0, none⟩) 82 (some ⟨x2, 0, none⟩) 82 (some ⟨x3, 0, none⟩) 94 (some ⟨x4, 0, none⟩) w (by decide) (by decide) (by decide) hA hB hl hr
  · rcases n4 with _ | _ | _ | _ | n4
    case succ => omega
    · exact cN_S bA bB opL opR op 82 (some ⟨x1, 0, none⟩) 82 (some ⟨x2, 0, none⟩) 84 (some ⟨x3, 0, none⟩) x4 r4 w (by decide) (by decide) (c4 rfl).1 (c4 rfl).2 hA hB hl hr
    · exact cN_F bA bB opL opR op 82 (some ⟨x1, 0, none⟩) 82 (some ⟨x2, 0, none⟩) 84 (some ⟨x3, 0, none⟩) 82 (some ⟨x4, 0, none⟩) w (by decide) (by decide) (by decide) hA hB hl hr
    · exact cN_F bA bB opL opR op 82 (some ⟨x1, 0, none⟩) 82 (some ⟨x2, 0, none⟩) 84 (some ⟨x3, 0, none⟩) 84 (some ⟨x4, 0, none⟩) w (by decide) (by decide) (by decide) hA hB hl hr
    · exact cN_F bA bB opL opR op 82 (some ⟨x1, 0, none⟩) 82 (some ⟨x2, 0, none⟩) 84 (some ⟨x3, 0, none⟩) 94 (some ⟨x4, 0, none⟩) w (by decide) (by decide) (by decide) hA hB hl hr
  · rcases n4 with _ | _ | _ | _ | n4
    case succ => omega
    · exact cN_S bA bB opL opR op 82 (some ⟨x1, 0, none⟩) 82 (some ⟨x2, 0, none⟩) 94 (some ⟨x3, 0, none⟩) x4 r4 w (by decide) (by decide) (c4 rfl).1 (c4 rfl).2 hA hB hl hr
    · exact cN_F bA bB opL opR op 82 (some ⟨x1, 0, none⟩) 82 (some ⟨x2, 0, none⟩) 94 (some ⟨x3, 0, none⟩) 82 (some ⟨x4, 0, none⟩) w (by decide) (by decide) (by decide) hA hB hl hr
    · exact cN_F bA bB opL opR op 82 (some ⟨x1, 0, none⟩) 82 (some ⟨x2, 0, none⟩) 94 (some ⟨x3, 0, none⟩) 84 (some ⟨x4, 0, none⟩) w (by decide) (by decide) (by decide) hA hB hl hr
    · exact cN_F bA bB opL opR op 82 (some ⟨x1, 0, none⟩) 82 (some ⟨x2, 0, none⟩) 94 (some ⟨x3, 0, none⟩) 94 (some ⟨x4, 0, none⟩) w (by decide) (by decide) (by decide) hA hB hl hr

theorem no_12 (n3 n4 : Nat) (r1 r2 r3 r4 : Int) (v1 v2 v3 v4 : Value) (bA bB : Nat) (opL opR op : Int) (w : World) (h1 : Opd w 1 r1 v1) (h2 : Opd w 2 r2 v2) (h3 : Opd w n3 r3 v3) (h4 : Opd w n4 r4 v4) (hA : Bin w bA v1 0 v2 0 opL) (hB : Bin w bB v3 0 v4 0 opR) (g3 : n3 < 4) (g4 : n4 < 4) (hl : (opL == op) = true) (hr : (opR == op) = true)
    (hw : (okS 1 2 && okS n3 n4 && (refS 1 2 r1 r2 == refS n3 n4 r3 r4) && (litS 1 2 != litS n3 n4)) = false) :
    Calls Try.prog 8 #[.agg #[.iface 68 (.pointer (some ⟨bA, 0, none⟩)), .int .i32 0], .agg #[.iface 68 (.pointer (some ⟨bB, 0, none⟩)), .int .i32 0], .int .u8 op] w fun e w' => e = .returned (.tuple #[.agg #[.nilIface, .int .i32 0], .agg #[.nilIface, .int .i32 0], .bool false]) ∧ Below w.heap.size w w' := by
  obtain ⟨x1, rfl, c1, _⟩ := h1
  obtain ⟨x2, rfl, c2, _⟩ := h2
  obtain ⟨x3, rfl, c3, _⟩ := h3
  obtain ⟨x4, rfl, c4, _⟩ := h4
  rcases n3 with _ | _ | _ | _ | n3
  case succ => omega
  · rcases n4 with _ | _ | _ | _ | n4
    case succ => omega
    · exact cN_S bA bB opL opR op 82 (some ⟨x1, 0, none⟩) 84 (some ⟨x2, 0, none⟩) 43 (some ⟨x3, 0, none⟩) x4 r4 w (by decide) (by decide) (c4 rfl).1 (c4 rfl).2 hA hB hl hr
    · exact cN_F bA bB opL opR op 82 (some ⟨x1, 0, none⟩) 84 (some ⟨x2, 0, none⟩) 43 (some ⟨x3, 0, none⟩) 82 (some ⟨x4, 0, none⟩) w (by decide) (by decide) (by decide) hA hB hl hr
    · exact cN_F bA bB opL opR op 82 (some ⟨x1, 0, none⟩) 84 (some ⟨x2, 0, none⟩) 43 (some ⟨x3, 0, none⟩) 84 (some ⟨x4, 0, none⟩) w (by decide) (by decide) (by decide) hA hB hl hr
    · exact cN_F bA bB opL opR op 82 (some ⟨x1, 0, none⟩) 84 (some ⟨x2, 0, none⟩) 43 (some ⟨x3, 0, none⟩) 94 (some ⟨x4, 0, none⟩) w (by decide) (by decide) (by decide) hA hB hl hr
  · rcases n4 with _ | _ | _ | _ | n4
    case succ => omega
    · exact cN_S bA bB opL opR op 82 (some ⟨x1, 0, none⟩) 84 (some ⟨x2, 0, none⟩) 82 (some ⟨x3, 0, none⟩) x4 r4 w (by decide) (by decide) (c4 rfl).1 (c4 rfl).2 hA hB hl hr
    · exact cN_F bA bB opL opR op 82 (some ⟨x1, 0, none⟩) 84 (some ⟨x2, 0, none⟩) 82 (some ⟨x3, 0, none⟩) 82 (some ⟨x4, 0, none⟩) w (by decide) (by decide) (by decide) hA hB hl hr
    · exact cN_F bA bB opL opR op 82 (some ⟨x1, 0, none⟩) 84 (some ⟨x2, 0, none⟩) 82 (some ⟨x3, 0, none⟩) 84 (some ⟨x4, 0, none⟩) w (by decide) (by decide) (by decide) hA hB hl hr
    · exact cN_F bA bB opL opR op 82 (some ⟨x1, 0, none⟩) 84 (some ⟨x2, 0, none⟩) 82 (some ⟨x3, 0, none⟩) 94 (some ⟨x4, 0, none⟩) w (by decide) (by decide) (by decide) hA hB hl hr
  · rcases n4 with _ | _ | _ | _ | n4
    case succ => omega
    · exact cN_S bA bB opL opR op 82 (some ⟨x1, 0, none⟩) 84 (some ⟨x2, 0, none⟩) 84 (some ⟨x3, 0, none⟩) x4 r4 w (by decide) (by decide) (c4 rfl).1 (c4 rfl).2 hA hB hl hr
    · exact cN_F bA bB opL opR op 82 (some ⟨x1, 0, none⟩) 84 (some ⟨x2, 0, none⟩) 84 (some ⟨x3, 0, none⟩) 82 (some ⟨x4, 0, none⟩) w (by decide) (by decide) (by decide) hA hB hl hr
    · exact cN_F bA bB opL opR op 82 (some ⟨x1, 0, none⟩) 84 (some ⟨x2, 0, none⟩) 84 (some ⟨x3, 0, none⟩) 84 (some ⟨x4, 0, none⟩) w (by decide) (by decide) (by decide) hA hB hl hr
    · exact cN_F bA bB opL opR op 82 (some ⟨x1, 0, none⟩) 84 (some ⟨x2, 0, none⟩) 84 (some ⟨x3, 0, none⟩) 94 (some ⟨x4, 0, none⟩) w (by decide) (by decide) (by decide) hA hB hl hr
  · rcases n4 with _ | _ | _ | _ | n4
    case succ => omega
    · exact cN_S bA bB opL opR op 82 (some ⟨x1, 0, none⟩) 84 (some ⟨x2, 0, none⟩) 94 (some ⟨x3, 0, none⟩) x4 r4 w (by decide) (by decide) (c4 rfl).1 (c4 rfl).2 hA hB hl hr
    · exact cN_F bA bB opL opR op 82 (some ⟨x1, 0, none⟩) 84 (some ⟨x2, 0, none⟩) 94 (some ⟨x3, 0, none⟩) 82 (some ⟨x4, 0, none⟩) w (by decide) (by decide) (by decide) hA hB hl hr
    · exact cN_F bA bB opL opR op 82 (some ⟨x1, 0, none⟩) 84 (some ⟨x2, 0, none⟩) 94 (some ⟨x3, 0, none⟩) 84 (some ⟨x4, 0, none⟩) w (by decide) (by decide) (by decide) hA hB hl hr
    · exact cN_F bA bB opL opR op 82 (some ⟨x1, 0, none⟩) 84 (some ⟨x2, 0, none⟩) 94 (some ⟨x3, 0, none⟩) 94 (some ⟨x4, 0, none⟩) w (by decide) (by decide) (by decide) hA hB hl hr

theorem no_13 (n3 n4 : Nat) (r1 r2 r3 r4 : Int) (v1 v2 v3 v4 : Value) (bA bB : Nat) (opL opR op : Int) (w : World) (h1 : Opd w 1 r1 v1) (h2 : Opd w 3 r2 v2) (h3 : Opd w n3 r3 v3) (h4 : Opd w n4 r4 v4) (hA : Bin w bA v1 0 v2 0 opL) (hB : Bin w bB v3 0 v4 0 opR) (g3 : n3 < 4) (g4 : n4 < 4) (hl : (opL == op) = true) (hr : (opR == op) = true)
    (hw : (okS 1 3 && okS n3 n4 && (refS 1 3 r1 r2 == refS n3 n4 r3 r4) && (litS 1 3 != litS n3 n4)) = false) :
    Calls Try.prog 8 #[.agg #[.iface 68 (.pointer (some ⟨bA, 0, none⟩)), .int .i32 0], .agg #[.iface 68 (.pointer (some ⟨bB, 0, none⟩)), .int .i32 0], .int .u8 op] w fun e w' => e = .returned (.tuple #[.agg #[.nilIface, .int .i32 0], .agg #[.nilIface, .int .i32 0], .bool false]) ∧ Below w.heap.size w w' := by
  obtain ⟨x1, rfl, c1, _⟩ := h1
  obtain ⟨x2, rfl, c2, _⟩ := h2
  obtain ⟨x3, rfl, c3, _⟩ := h3
  obtain ⟨x4, rfl, c4, _⟩ := h4
  rcases n3 with _ | _ | _ | _ | n3
  case succ => omega
  · rcases n4 with _ | _ | _ | _ | n4
    case succ => omega
    · exact cN_S bA bB opL opR op 82 (some ⟨x1, 0, none⟩) 94 (some ⟨x2, 0, none⟩) 43 (some ⟨x3, 0, none⟩) x4 r4 w (by decide) (by decide) (c4 rfl).1 (c4 rfl).2 hA hB hl hr
    · exact cN_F bA bB opL opR op 82 (some ⟨x1, 0, none⟩) 94 (some ⟨x2, 0, none⟩) 43 (some ⟨x3, 0, none⟩) 82 (some ⟨x4, 0, none⟩) w (by decide) (by decide) (by decide) hA hB hl hr
    · exact cN_F bA bB opL opR op 82 (some ⟨x1, 0, none⟩) 94 (some ⟨x2, 0, none⟩) 43 (some ⟨x3, 0, none⟩) 84 (some ⟨x4, 0, none⟩) w (by decide) (by decide) (by decide) hA hB hl hr
    · exact cN_F bA bB opL opR op 82 (some ⟨x1, 0, none⟩) 94 (some ⟨x2, 0, none⟩) 43 (some ⟨x3, 0, none⟩) 94 (some ⟨x4, 0, none⟩) w (by decide) (by decide) (by decide) hA hB hl hr
  · rcases n4 with _ | _ | _ | _ | n4
    case succ => omega
    · exact cN_S bA bB opL opR op 82 (some ⟨x1, 0, none⟩) 94 (some ⟨x2, 0, none⟩) 82 (some ⟨x3, 0, none⟩) x4 r4 w (by decide) (by decide) (c4 rfl).1 (c4 rfl).2 hA hB hl hr
    · exact cN_F bA bB opL opR op 82 (some ⟨x1, 0, none⟩) 94 (some ⟨x2, 0, none⟩) 82 (some ⟨x3, 0, none⟩) 82 (some ⟨x4, 0, none⟩) w (by decide) (by decide) (by decide) hA hB hl hr
    · exact cN_F bA bB opL opR op 82 (some ⟨x1, 0, none⟩) 94 (some ⟨x2, 0, none⟩) 82 (some ⟨x3, 0, none⟩) 84 (some ⟨x4, 0, none⟩) w (by decide) (by decide) (by decide) hA hB hl hr
    · exact cN_F bA bB opL opR op 82 (some ⟨x1, 0, none⟩) 94 (some ⟨x2, 0, none⟩) 82 (some ⟨x3, 0, none⟩) 94 (some ⟨x4, 0, none⟩) w (by decide) (by decide) (by decide) hA hB hl hr
  · rcases n4 with _ | _ | _ | _ | n4
    case succ => omega
    · exact cN_S bA bB opL opR op 82 (some ⟨x1, 0, none⟩) 94 (some ⟨x2, 0, none⟩) 84 (some ⟨x3, 0, none⟩) x4 r4 w (by decide) (by decide) (c4 rfl).1 (c4 rfl).2 hA hB hl hr
    · exact cN_F bA bB opL opR op 82 (some ⟨x1, 0, none⟩) 94 (some ⟨x2, 0, none⟩) 84 (some ⟨x3, 0, none⟩) 82 (some ⟨x4, 0, none⟩) w (by decide) (by decide) (by decide) hA hB hl hr
    · exact cN_F bA bB opL opR op 82 (some ⟨x1, 0, none⟩) 94 (some ⟨x2, 0, none⟩) 84 (some ⟨x3, 0, none⟩) 84 (some ⟨x4, 0, none⟩) w (by decide) (by decide) (by decide) hA hB hl hr
    · exact cN_F bA bB opL opR op 82 (some ⟨x1, 0, none⟩) 94 (some ⟨x2, 0, none⟩) 84 (some ⟨x3, 0, none⟩) 94 (some ⟨x4, 0, none⟩) w (by decide) (by decide) (by decide) hA hB hl hr
  · rcases n4 with _ | _ | _ | _ | n4
    case succ => omega
    · exact cN_S bA bB opL opR op 82 (some ⟨x1, 0, none⟩) 94 (some ⟨x2, 0, none⟩) 94 (some ⟨x3, 0, none⟩) x4 r4 w (by decide) (by decide) (c4 rfl).1 (c4 rfl).2 hA hB hl hr
    · exact cN_F bA bB opL opR op 82 (some ⟨x1, 0, none⟩) 94 (some ⟨x2, 0, none⟩) 94 (some ⟨x3, 0, none⟩) 82 (some ⟨x4, 0, none⟩) w (by decide) (by decide) (by decide) hA hB hl hr
    · exact cN_F bA bB opL opR op 82 (some ⟨x1, 0, none⟩) 94 (some ⟨x2, 0, none⟩) 94 (some ⟨x3, 0, none⟩) 84 (some ⟨x4, 0, none⟩) w (by decide) (by decide) (by decide) hA hB hl hr
    · exact cN_F bA bB opL opR op 82 (some ⟨x1, 0, none⟩) 94 (some ⟨x2, 0, none⟩) 94 (some ⟨x3, 0, none⟩) 94 (some ⟨x4, 0, none⟩) w (by decide) (by decide) (by decide) hA hB hl hr

theorem no_20 (n3 n4 : Nat) (r1 r2 r3 r4 : Int) (v1 v2 v3 v4 : Value) (bA bB : Nat) (opL opR op : Int) (w : World) (h1 : Opd w 2 r1 v1) (h2 : Opd w 0 r2 v2) (h3 : Opd w n3 r3 v3) (h4 : Opd w n4 r4 v4) (hA : Bin w bA v1 0 v2 0 opL) (hB : Bin w bB v3 0 v4 0 opR) (g3 : n3 < 4) (g4 : n4 < 4) (hl : (opL == op) = true) (hr : (opR == op) = true)
    (hw : (okS 2 0 && okS n3 n4 && (refS 2 0 r1 r2 == refS n3 n4 r3 r4) && (litS 2 0 != litS n3 n4)) = false) :
    Calls Try.prog 8 #[.agg #[.iface 68 (.pointer (some ⟨bA, 0, none⟩)), .int .i32 0], .agg #[.iface 68 (.pointer (some ⟨bB, 0, none⟩)), .int .i32 0], .int .u8 op] w fun e w' => e = .returned (.tuple #[.agg #[.nilIface, .int .i32 0], .agg #[.nilIface, .int .i32 0], .bool false]) ∧ Below w.heap.size w w' := by
  obtain ⟨x1, rfl, c1, _⟩ := h1
  obtain ⟨x2, rfl, c2, _⟩ := h2
  obtain ⟨x3, rfl, c3, _⟩ := h3
  obtain ⟨x4, rfl, c4, _⟩ := h4
  rcases n3 with _ | _ | _ | _ | n3
  case succ => omega
  · rcases n4 with _ | _ | _ | _ | n4
    case succ => omega
    · cases hrr : (r2 == r4)
      · exact cSS_df bA bB opL opR op 84 (some ⟨x1, 0, none⟩) x2 r2 43 (some ⟨x3, 0, none⟩) x4 r4 w (c2 rfl).1 (c2 rfl).2 (c4 rfl).1 (c4 rfl).2 hA hB hl hr hrr
      · exact cSS_ux bA bB opL opR op (some ⟨x1, 0, none⟩) x2 r2 43 (some ⟨x3, 0, none⟩) x4 r4 w (c2 rfl).1 (c2 rfl).2 (by decide) (c4 rfl).1 (c4 rfl).2 hA hB hl hr hrr
    · have hrr : (r2 == r3) = false := by simpa [okS, refS, litS] using hw
      exact cSF_df bA bB opL opR op 84 (some ⟨x1, 0, none⟩) x2 r2 x3 r3 82 (some ⟨x4, 0, none⟩) w (c2 rfl).1 (c2 rfl).2 (c3 rfl).1 (c3 rfl).2 (by decide) hA hB hl hr hrr
    · cases hrr : (r2 == r3)
      · exact cSF_df bA bB opL opR op 84 (some ⟨x1, 0, none⟩) x2 r2 x3 r3 84 (some ⟨x4, 0, none⟩) w (c2 rfl).1 (c2 rfl).2 (c3 rfl).1 (c3 rfl).2 (by decide) hA hB hl hr hrr
      · exact cSF_ux bA bB opL opR op (some ⟨x1, 0, none⟩) x2 r2 x3 r3 84 (some ⟨x4, 0, none⟩) w (c2 rfl).1 (c2 rfl).2 (c3 rfl).1 (c3 rfl).2 (by decide) (by decide) hA hB hl hr hrr
    · cases hrr : (r2 == r3)
      · exact cSF_df bA bB opL opR op 84 (some ⟨x1, 0, none⟩) x2 r2 x3 r3 94 (some ⟨x4, 0, none⟩) w (c2 rfl).1 (c2 rfl).2 (c3 rfl).1 (c3 rfl).2 (by decide) hA hB hl hr hrr
      · exact cSF_ux bA bB opL opR op (some ⟨x1, 0, none⟩) x2 r2 x3 r3 94 (some ⟨x4, 0, none⟩) w (c2 rfl).1 (c2 rfl).2 (c3 rfl).1 (c3 rfl).2 (by decide) (by decide) hA hB hl hr hrr
  · rcases n4 with _ | _ | _ | _ | n4
    case succ => omega
    · have hrr : (r2 == r4) = false := by simpa [okS, refS, litS] using hw
      exact cSS_df bA bB opL opR op 84 (some ⟨x1, 0, none⟩) x2 r2 82 (some ⟨x3, 0, none⟩) x4 r4 w (c2 rfl).1 (c2 rfl).2 (c4 rfl).1 (c4 rfl).2 hA hB hl hr hrr
    · exact cS_N bA bB opL opR op 84 (some ⟨x1, 0, none⟩) x2 r2 82 (some ⟨x3, 0, none⟩) 82 (some ⟨x4, 0, none⟩) w (c2 rfl).1 (c2 rfl).2 (by decide) (by decide) hA hB hl hr
    · exact cS_N bA bB opL opR op 84 (some ⟨x1, 0, none⟩) x2 r2 82 (some ⟨x3, 0, none⟩) 84 (some ⟨x4, 0, none⟩) w (c2 rfl).1 (c2 rfl).2 (by decide) (by decide) hA hB hl hr
    · exact cS_N bA bB opL opR op 84 (some ⟨x1, 0, none⟩) x2 r2 82 (some ⟨x3, 0, none⟩) 94 (some ⟨x4, 0, none⟩) w (c2 rfl).1 (c2 rfl).2 (by decide) (by decide) hA hB hl hr
  · rcases n4 with _ | _ | _ | _ | n4
    case succ => omega
    · cases hrr : (r2 == r4)
      · exact cSS_df bA bB opL opR op 84 (some ⟨x1, 0, none⟩) x2 r2 84 (some ⟨x3, 0, none⟩) x4 r4 w (c2 rfl).1 (c2 rfl).2 (c4 rfl).1 (c4 rfl).2 hA hB hl hr hrr
      · exact cSS_ux bA bB opL opR op (some ⟨x1, 0, none⟩) x2 r2 84 (some ⟨x3, 0, none⟩) x4 r4 w (c2 rfl).1 (c2 rfl).2 (by decide) (c4 rfl).1 (c4 rfl).2 hA hB hl hr hrr
    · exact cS_N bA bB opL opR op 84 (some ⟨x1, 0, none⟩) x2 r2 84 (some ⟨x3, 0, none⟩) 82 (some ⟨x4, 0, none⟩) w (c2 rfl).1 (c2 rfl).2 (by decide) (by decide) hA hB hl hr
    · exact cS_N bA bB opL opR op 84 (some ⟨x1, 0, none⟩) x2 r2 84 (some ⟨x3, 0, none⟩) 84 (some ⟨x4, 0, none⟩) w (c2 rfl).1 (c2 rfl).2 (by decide) (by decide) hA hB hl hr
    · exact cS_N bA bB opL opR op 84 (some ⟨x1, 0, none⟩) x2 r2 84 (some ⟨x3, 0, none⟩) 94 (some ⟨x4, 0, none⟩) w (c2 rfl).1 (c2 rfl).2 (by decide) (by decide) hA hB hl hr
  · rcases n4 with _ | _ | _ | _ | n4
    case succ => omega
    · cases hrr : (r2 == r4)
      · exact cSS_df bA bB opL opR op 84 (some ⟨x1, 0, none⟩) x2 r2 94 (some ⟨x3, 0, none⟩) x4 r4 w (c2 rfl).1 (c2 rfl).2 (c4 rfl).1 (c4 rfl).2 hA hB hl hr hrr
      · exact cSS_ux bA bB opL opR op (some ⟨x1, 0, none⟩) x2 r2 94 (some ⟨x3, 0, none⟩) x4 r4 w (c2 rfl).1 (c2 rfl).2 (by decide) (c4 rfl).1 (c4 rfl).2 hA hB hl hr hrr
    · exact cS_N bA bB opL opR op 84 (some ⟨x1, 0, none⟩) x2 r2 94 (some ⟨x3, 0, none⟩) 82 (some ⟨x4, 0, none⟩) w (c2 rfl).1 (c2 rfl).2 (by decide) (by decide) hA hB hl hr
    · exact cS_N bA bB opL opR op 84 (some ⟨x1, 0, none⟩) x2 r2 94 (some ⟨x3, 0, none⟩) 84 (some ⟨x4, 0, none⟩) w (c2 rfl).1 (c2 rfl).2 (by decide) (by decide) hA hB hl hr
    · exact cS_N bA bB opL opR op 84 (some ⟨x1, 0, none⟩) x2 r2 94 (some ⟨x3, 0, none⟩) 94 (some ⟨x4, 0, none⟩) w (c2 rfl).1 (c2 rfl).2 (by decide) (by decide) hA hB hl hr

theorem no_21 (n3 n4 : Nat) (r1 r2 r3 r4 : Int) (v1 v2 v3 v4 : Value) (bA bB : Nat) (opL opR op : Int) (w : World) (h1 : Opd w 2 r1 v1) (h2 : Opd w 1 r2 v2) (h3 : Opd w n3 r3 v3) (h4 : Opd w n4 r4 v4) (hA : Bin w bA v1 0 v2 0 opL) (hB : Bin w bB v3 0 v4 0 opR) (g3 : n3 < 4) (g4 : n4 < 4) (hl : (opL == op) = true) (hr : (opR == op) = true)
    (hw : (okS 2 1 && okS n3 n4 && (refS 2 1 r1 r2 == refS n3 n4 r3 r4) && (litS 2 1 != litS n3 n4)) = false) :
    Calls Try.prog 8 #[.agg #[.iface 68 (.pointer (some ⟨bA, 0, none⟩)), .int .i32 0], .agg #[.iface 68 (.pointer (some ⟨bB, 0, none⟩)), .int .i32 0], .int .u8 op] w fun e w' => e = .returned (.tuple #[.agg #[.nilIface, .int .i32 0], .agg #[.nilIface, .int .i32 0], .bool false]) ∧ Below w.heap.size w w' := by
  obtain ⟨x1, rfl, c1, _⟩ := h1
  obtain ⟨x2, rfl, c2, _⟩ := h2
  obtain ⟨x3, rfl, c3, _⟩ := h3
  obtain ⟨x4, rfl, c4, _⟩ := h4
  rcases n3 with _ | _ | _ | _ | n3
  case succ => omega
  · rcases n4 with _ | _ | _ | _ | n4
    case succ => omega
    · exact cN_S bA bB opL opR op 84 (some ⟨x1, 0, none⟩) 82 (some ⟨x2, 0, none⟩) 43 (some ⟨x3, 0, none⟩) x4 r4 w (by decide) (by decide) (c4 rfl).1 (c4 rfl).2 hA hB hl hr
    · exact cN_F bA bB opL opR op 84 (some ⟨x1, 0, none⟩) 82 (some ⟨x2, 0, none⟩) 43 (some ⟨x3, 0, none⟩) 82 (some ⟨x4, 0, none⟩) w (by decide) (by decide) (by decide) hA hB hl hr
    · exact cN_F bA bB opL opR op 84 (some ⟨x1, 0, none⟩) 82 (some ⟨x2, 0, none⟩) 43 (some ⟨x3, 0, none⟩) 84 (some ⟨x4, 0, none⟩) w (by decide) (by decide) (by decide) hA hB hl hr
    · exact cN_F bA bB opL opR op 84 (some ⟨x1, 0, none⟩) 82 (some ⟨x2, 0, none⟩) 43 (some ⟨x3, 0, none⟩) 94 (some ⟨x4, 0, none⟩) w (by decide) (by decide) (by decide) hA hB hl hr
  · rcases n4 with _ | _ | _ | _ | n4
    case succ => omega
    · exact cN_S bA bB opL opR op 84 (some ⟨x1, 0, none⟩) 82 (some ⟨x2, 0, none⟩) 82 (some ⟨x3, 0, none⟩) x4 r4 w (by decide) (by decide) (c4 rfl).1 (c4 rfl).2 hA hB hl hr
    · exact cN_F bA bB opL opR op 84 (some ⟨x1, 0, none⟩) 82 (some ⟨x2, 0, none⟩) 82 (some ⟨x3, 0, none⟩) 82 (some ⟨x4, 0, none⟩) w (by decide) (by decide) (by decide) hA hB hl hr
    · exact cN_F bA bB opL opR op 84 (some ⟨x1, 0, none⟩) 82 (some ⟨x2, 0, none⟩) 82 (some ⟨x3, 0, none⟩) 84 (some ⟨x4, 0, none⟩) w (by decide) (by decide) (by decide) hA hB hl hr
    · exact cN_F bA bB opL opR op 84 (some ⟨x1, 0, none⟩) 82 (some ⟨x2, 0, none⟩) 82 (some ⟨x3, 0, none⟩) 94 (some ⟨x4, 0, none⟩) w (by decide) (by decide) (by decide) hA hB hl hr
  · rcases n4 with _ | _ | _ | _ | n4
    case succ => omega
    · exact cN_S bA bB opL opR op 84 (some ⟨x1, 0, none⟩) 82 (some ⟨x2, 0, none⟩) 84 (some ⟨x3, 0, none⟩) x4 r4 w (by decide) (by decide) (c4 rfl).1 (c4 rfl).2 hA hB hl hr
    · exact cN_F bA bB opL opR op 84 (some ⟨x1, 0, none⟩) 82 (some ⟨x2, 0, none⟩) 84 (some ⟨x3, 0, none⟩) 82 (some ⟨x4, 0, none⟩) w (by decide) (by decide) (by decide) hA hB hl hr
    · exact cN_F bA bB opL opR op 84 (some ⟨x1, 0, none⟩) 82 (some ⟨x2, 0, none⟩) 84 (some ⟨x3, 0, none⟩) 84 (some ⟨x4, 0, none⟩) w (by decide) (by decide) (by decide) hA hB hl hr
    · exact cN_F bA bB opL opR op 84 (some ⟨x1, 0, none⟩) 82 (some ⟨x2, 0, none⟩) 84 (some ⟨x3, 0, none⟩) 94 (some ⟨x4, 0, none⟩) w (by decide) (by decide) (by decide) hA hB hl hr
  · rcases n4 with _ | _ | _ | _ | n4
    case succ => omega
    · exact cN_S bA bB opL opR op 84 (some ⟨x1, 0, none⟩) 82 (some ⟨x2, 0, none⟩) 94 (some ⟨x3, 0, none⟩) x4 r4 w (by decide) (by decide) (c4 rfl).1 (c4 rfl).2 hA hB hl hr
    · exact cN_F bA bB opL opR op 84 (some ⟨x1, 0, none⟩) 82 (some ⟨x2, 0, none⟩) 94 (some ⟨x3, 0, none⟩) 82 (some ⟨x4, 0, none⟩) w (by decide) (by decide) (by decide) hA hB hl hr
    · exact cN_F bA bB opL opR op 84 (some ⟨x1, 0, none⟩) 82 (some ⟨x2, 0, none⟩) 94 (some ⟨x3, 0, none⟩) 84 (some ⟨x4, 0, none⟩) w (by decide) (by decide) (by decide) hA hB hl hr
    · exact cN_F bA bB opL opR op 84 (some ⟨x1, 0, none⟩) 82 (some ⟨x2, 0, none⟩) 94 (some ⟨x3, 0, none⟩) 94 (some ⟨x4, 0, none⟩) w (by decide) (by decide) (by decide) hA hB hl hr

theorem no_22 (n3 n4 : Nat) (r1 r2 r3 r4 : Int) (v1 v2 v3 v4 : Value) (bA bB : Nat) (opL opR op : Int) (w : World) (h1 : Opd w 2 r1 v1) (h2 : Opd w 2 r2 v2) (h3 : Opd w n3 r3 v3) (h4 : Opd w n4 r4 v4) (hA : Bin w bA v1 0 v2 0 opL) (hB : Bin w bB v3 0 v4 0 opR) (g3 : n3 < 4) (g4 : n4 < 4) (hl : (opL == op) = true) (hr : (opR == op) = true)
    (hw : (okS 2 2 && okS n3 n4 && (refS 2 2 r1 r2 == refS n3 n4 r3 r4) && (litS 2 2 != litS n3 n4)) = false) :
    Calls Try.prog 8 #[.agg #[.iface 68 (.pointer (some ⟨bA, 0, none⟩)), .int .i32 0], .agg #[.iface 68 (.pointer (some ⟨bB, 0, none⟩)), .int .i32 0], .int .u8 op] w fun e w' => e = .returned (.tuple #[.agg #[.nilIface, .int .i32 0], .agg #[.nilIface, .int .i32 0], .bool false]) ∧ Below w.heap.size w w' := by
  obtain ⟨x1, rfl, c1, _⟩ := h1
  obtain ⟨x2, rfl, c2, _⟩ := h2
  obtain ⟨x3, rfl, c3, _⟩ := h3
  obtain ⟨x4, rfl, c4, _⟩ := h4
  rcases n3 with _ | _ | _ | _ | n3
  case succ => omega
  · rcases n4 with _ | _ | _ | _ | n4
    case succ => omega
    · exact cN_S bA bB opL opR op 84 (some ⟨x1, 0, none⟩) 84 (some ⟨x2, 0, none⟩) 43 (some ⟨x3, 0, none⟩) x4 r4 w (by decide) (by decide) (c4 rfl).1 (c4 rfl).2 hA hB hl hr
    · exact cN_F bA bB opL opR op 84 (some ⟨x1, 0, none⟩) 84 (some ⟨x2, 0, none⟩) 43 (some ⟨x3, 0, none⟩) 82 (some ⟨x4, 0, none⟩) w (by decide) (by decide) (by decide) hA hB hl hr
    · exact cN_F bA bB opL opR op 84 (some ⟨x1, 0, none⟩) 84 (some ⟨x2, 0, none⟩) 43 (some ⟨x3, 0, none⟩) 84 (some ⟨x4, 0, none⟩) w (by decide) (by decide) (by decide) hA hB hl hr
    · exact cN_F bA bB opL opR op 84 (some ⟨x1, 0, none⟩) 84 (some ⟨x2, 0, none⟩) 43 (some ⟨x3, 0, none⟩) 94 (some ⟨x4, 0, none⟩) w (by decide) (by decide) (by decide) hA hB hl hr
  · rcases n4 with _ | _ | _ | _ | n4
    case succ => omega
    · exact cN_S bA bB opL opR op 84 (some ⟨x1, 0, none⟩) 84 (some ⟨x2, 0, none⟩) 82 (some ⟨x3, 0, none⟩) x4 r4 w (by decide) (by decide) (c4 rfl).1 (c4 rfl).2 hA hB hl hr
    · exact cN_F bA bB opL opR op 84 (some ⟨x1, 0, none⟩) 84 (some ⟨x2, 0, none⟩) 82 (some ⟨x3, 0, none⟩) 82 (some ⟨x4, 0, none⟩) w (by decide) (by decide) (by decide) hA hB hl hr
    · exact cN_F bA bB opL opR op 84 (some ⟨x1, 0, none⟩) 84 (some ⟨x2, 0, none⟩) 82 (some ⟨x3, 0, none⟩) 84 (some ⟨x4, 0, none⟩) w (by decide) (by decide) (by decide) hA hB hl hr
    · exact cN_F bA bB opL opR op 84 (some ⟨x1, 0, none⟩) 84 (some ⟨x2, 0, none⟩) 82 (some ⟨x3, 0, none⟩) 94 (some ⟨x4, 0, none⟩) w (by decide) (by decide) (by decide) hA hB hl hr
  · rcases n4 with _ | _ | _ | _ | n4
    case succ => omega
    · exact cN_S bA bB opL opR op 84 (some ⟨x1, 0, none⟩) 84 (some ⟨x2, 0, none⟩) 84 (some ⟨x3, 0, none⟩) x4 r4 w (by decide) (by decide) (c4 rfl).1 (c4 rfl).2 hA hB hl hr
    · exact cN_F bA bB opL opR op 84 (some ⟨x1, 0, none⟩) 84 (some ⟨x2, 0, none⟩) 84 (some ⟨x3, 0, none⟩) 82 (some ⟨x4, 0, none⟩) w (by decide) (by decide) (by decide) hA hB hl hr
    · exact cN_F bA bB opL opR op 84 (some ⟨x1, 0, none⟩) 84 (some ⟨x2, 0, none⟩) 84 (some ⟨x3, 0, none⟩) 84 (some ⟨x4, 0, none⟩) w (by decide) (by decide) (by decide) hA hB hl hr
    · exact cN_F bA bB opL opR op 84 (some ⟨x1, 0, none⟩) 84 (some ⟨x2, 0, none⟩) 84 (some ⟨x3, 0, none⟩) 94 (some ⟨x4, 0, none⟩) w (by decide) (by decide) (by decide) hA hB hl hr
  · rcases n4 with _ | _ | _ | _ | n4
    case succ => omega
    · exact cN_S bA bB opL opR op 84 (some ⟨x1, 0, none⟩) 84 (some ⟨x2, 0, none⟩) 94 (some ⟨x3, 0, none⟩) x4 r4 w (by decide) (by decide) (c4 rfl).1 (c4 rfl).2 hA hB hl hr
    · exact cN_F bA bB opL opR op 84 (some ⟨x1, 0, none⟩) 84 (some ⟨x2, 0, none⟩) 94 (some ⟨x3, 0, none⟩) 82 (some ⟨x4, 0, none⟩) w (by decide) (by decide) (by decide) hA hB hl hr
    · exact cN_F bA bB opL opR op 84 (some ⟨x1, 0, none⟩) 84 (some ⟨x2, 0, none⟩) 94 (some ⟨x3, 0, none⟩) 84 (some ⟨x4, 0, none⟩) w (by decide) (by decide) (by decide) hA hB hl hr
    · exact cN_F bA bB opL opR op 84 (some ⟨x1, 0, none⟩) 84 (some ⟨x2, 0, none⟩) 94 (some ⟨x3, 0, none⟩) 94 (some ⟨x4, 0, none⟩) w (by decide) (by decide) (by decide) hA hB hl hr

theorem no_23 (n3 n4 : Nat) (r1 r2 r3 r4 : Int) (v1 v2 v3 v4 : Value) (bA bB : Nat) (opL opR op : Int) (w : World) (h1 : Opd w 2 r1 v1) (h2 : Opd w 3 r2 v2) (h3 : Opd w n3 r3 v3) (h4 : Opd w n4 r4 v4) (hA : Bin w bA v1 0 v2 0 opL) (hB : Bin w bB v3 0 v4 0 opR) (g3 : n3 < 4) (g4 : n4 < 4) (hl : (opL == op) = true) (hr : (opR == op) = true)
    (hw : (okS 2 3 && okS n3 n4 && (refS 2 3 r1 r2 == refS n3 n4 r3 r4) && (litS 2 3 != litS n3 n4)) = false) :
    Calls Try.prog 8 #[.agg #[.iface 68 (.pointer (some ⟨bA, 0, none⟩)), .int .i32 0], .agg #[.iface 68 (.pointer (some ⟨bB, 0, none⟩)), .int .i32 0], .int .u8 op] w fun e w' => e = .returned (.tuple #[.agg #[.nilIface, .int .i32 0], .agg #[.nilIface, .int .i32 0], .bool false]) ∧ Below w.heap.size w w' := by
  obtain ⟨x1, rfl, c1, _⟩ := h1
  obtain ⟨x2, rfl, c2, _⟩ := h2
  obtain ⟨x3, rfl, c3, _⟩ := h3
  obtain ⟨x4, rfl, c4, _⟩ := h4
  rcases n3 with _ | _ | _ | _ | n3
  case succ => omega
  · rcases n4 with _ | _ | _ | _ | n4
    case succ => omega
    · exact cN_S bA bB opL opR op 84 (some ⟨x1, 0, none⟩) 94 (some ⟨x2, 0, none⟩) 43 (some ⟨x3, 0, none⟩) x4 r4 w (by decide) (by decide) (c4 rfl).1 (c4 rfl).2 hA hB hl hr
    · exact cN_F bA bB opL opR op 84 (some ⟨x1, 0, none⟩) 94 (some ⟨x2, 0, none⟩) 43 (some ⟨x3, 0, none⟩) 82 (some ⟨x4, 0, none⟩) w (by decide) (by decide) (by decide) hA hB hl hr
    · exact cN_F bA bB opL opR op 84 (some ⟨x1, 0, none⟩) 94 (some ⟨x2, 0, none⟩) 43 (some ⟨x3, 0, none⟩) 84 (some ⟨x4, 0, none⟩) w (by decide) (by decide) (by decide) hA hB hl hr
    · exact cN_F bA bB opL opR op 84 (some ⟨x1, 0, none⟩) 94 (some ⟨x2, 0, none⟩) 43 (some ⟨x3, 0, none⟩) 94 (some ⟨x4, 0, none⟩) w (by decide) (by decide) (by decide) hA hB hl hr
  · rcases n4 with _ | _ | _ | _ | n4
    case succ => omega
    · exact cN_S bA bB opL opR op 84 (some ⟨x1, 0, none⟩) 94 (some ⟨x2, 0, none⟩) 82 (some ⟨x3, 0, none⟩) x4 r4 w (by decide) (by decide) (c4 rfl).1 (c4 rfl).2 hA hB hl hr
    · exact cN_F bA bB opL opR op 84 (some ⟨x1, 0, none⟩) 94 (some ⟨x2, 0, none⟩) 82 (some ⟨x3, 0, none⟩) 82 (some ⟨x4, 0, none⟩) w (by decide) (by decide) (by decide) hA hB hl hr
    · exact cN_F bA bB opL opR op 84 (some ⟨x1, 0, none⟩) 94 (some ⟨x2, 0, none⟩) 82 (some ⟨x3, 0, none⟩) 84 (some ⟨x4, 0, none⟩) w (by decide) (by decide) (by decide) hA hB hl hr
    · exact cN_F bA bB opL opR op 84 (some ⟨x1, 0, none⟩) 94 (some ⟨x2, 0, none⟩) 82 (some ⟨x3, 0, none⟩) 94 (some ⟨x4, 0, none⟩) w (by decide) (by decide) (by decide) hA hB hl hr
  · rcases n4 with _ | _ | _ | _ | n4
    case succ => omega
    · exact cN_S bA bB opL opR op 84 (some ⟨x1, 0, none⟩) 94 (some ⟨x2, 0, none⟩) 84 (some ⟨x3, 0, none⟩) x4 r4 w (by decide) (by decide) (c4 rfl).1 (c4 rfl).2 hA hB hl hr
    · exact cN_F bA bB opL opR op 84 (some ⟨x1, 0, none⟩) 94 (some ⟨x2, 0, none⟩) 84 (some ⟨x3, 0, none⟩) 82 (some ⟨x4, 0, none⟩) w (by decide) (by decide) (by decide) hA hB hl hr
    · exact cN_F bA bB opL opR op 84 (some ⟨x1, 0, none⟩) 94 (some ⟨x2, 0, none⟩) 84 (some ⟨x3, 0, none⟩) 84 (some ⟨x4, 0, none⟩) w (by decide) (by decide) (by decide) hA hB hl hr
    · exact cN_F bA bB opL opR op 84 (some ⟨x1, 0, none⟩) 94 (some ⟨x2, 0, none⟩) 84 (some ⟨x3, 0, none⟩) 94 (some ⟨x4, 0, none⟩) w (by decide) (by decide) (by decide) hA hB hl hr
  · rcases n4 with _ | _ | _ | _ | n4
    case succ => omega
    · exact cN_S bA bB opL opR op 84 (some ⟨x1, 0, none⟩) 94 (some ⟨x2, 0, none⟩) 94 (some ⟨x3, 0, none⟩) x4 r4 w (by decide) (by decide) (c4 rfl).1 (c4 rfl).2 hA hB hl hr
    · exact cN_F bA bB opL opR op 84 (some ⟨x1, 0, none⟩) 94 (some ⟨x2, 0, none⟩) 94 (some ⟨x3, 0, none⟩) 82 (some ⟨x4, 0, none⟩) w (by decide) (by decide) (by decide) hA hB hl hr
    · exact cN_F bA bB opL opR op 84 (some ⟨x1, 0, none⟩) 94 (some ⟨x2, 0, none⟩) 94 (some ⟨x3, 0, none⟩) 84 (some ⟨x4, 0, none⟩) w (by decide) (by decide) (by decide) hA hB hl hr
    · exact cN_F bA bB opL opR op 84 (some ⟨x1, 0, none⟩) 94 (some ⟨x2, 0, none⟩) 94 (some ⟨x3, 0, none⟩) 94 (some ⟨x4, 0, none⟩) w (by decide) (by decide) (by decide) hA hB hl hr

theorem no_30 (n3 n4 : Nat) (r1 r2 r3 r4 : Int) (v1 v2 v3 v4 : Value) (bA bB : Nat) (opL opR op : Int) (w : World) (h1 : Opd w 3 r1 v1) (h2 : Opd w 0 r2 v2) (h3 : Opd w n3 r3 v3) (h4 : Opd w n4 r4 v4) (hA : Bin w bA v1 0 v2 0 opL) (hB : Bin w bB v3 0 v4 0 opR) (g3 : n3 < 4) (g4 : n4 < 4) (hl : (opL == op) = true) (hr : (opR == op) = true)
    (hw : (okS 3 0 && okS n3 n4 && (refS 3 0 r1 r2 == refS n3 n4 r3 r4) && (litS 3 0 != litS n3 n4)) = false) :
    Calls Try.prog 8 #[.agg #[.iface 68 (.pointer (some ⟨bA, 0, none⟩)), .int .i32 0], .agg #[.iface 68 (.pointer (some ⟨bB, 0, none⟩)), .int .i32 0], .int .u8 op] w fun e w' => e = .returned (.tuple #[.agg #[.nilIface, .int .i32 0], .agg #[.nilIface, .int .i32 0], .bool false]) ∧ Below w.heap.size w w' := by
  obtain ⟨x1, rfl, c1, _⟩ := h1
  obtain ⟨x2, rfl, c2, _⟩ := h2
  obtain ⟨x3, rfl, c3, _⟩ := h3
  obtain ⟨x4, rfl, c4, _⟩ := h4
  rcases n3 with _ | _ | _ | _ | n3
  case succ => omega
  · rcases n4 with _ | _ | _ | _ | n4
    case succ => omega
    · cases hrr : (r2 == r4)
      · exact cSS_df bA bB opL opR op 94 (some ⟨x1, 0, none⟩) x2 r2 43 (some ⟨x3, 0, none⟩) x4 r4 w (c2 rfl).1 (c2 rfl).2 (c4 rfl).1 (c4 rfl).2 hA hB hl hr hrr
      · exact cSS_ox bA bB opL opR op 94 (some ⟨x1, 0, none⟩) x2 r2 43 (some ⟨x3, 0, none⟩) x4 r4 w (by decide) (by decide) (c2 rfl).1 (c2 rfl).2 (c4 rfl).1 (c4 rfl).2 hA hB hl hr hrr
    · cases hrr : (r2 == r3)
      · exact cSF_df bA bB opL opR op 94 (some ⟨x1, 0, none⟩) x2 r2 x3 r3 82 (some ⟨x4, 0, none⟩) w (c2 rfl).1 (c2 rfl).2 (c3 rfl).1 (c3 rfl).2 (by decide) hA hB hl hr hrr
      · exact cSF_ox bA bB opL opR op 94 (some ⟨x1, 0, none⟩) x2 r2 x3 r3 82 (some ⟨x4, 0, none⟩) w (by decide) (by decide) (c2 rfl).1 (c2 rfl).2 (c3 rfl).1 (c3 rfl).2 (by decide) hA hB hl hr hrr
    · cases hrr : (r2 == r3)
      · exact cSF_df bA bB opL opR op 94 (some ⟨x1, 0, none⟩) x2 r2 x3 r3 84 (some ⟨x4, 0, none⟩) w (c2 rfl).1 (c2 rfl).2 (c3 rfl).1 (c3 rfl).2 (by decide) hA hB hl hr hrr
      · exact cSF_ox bA bB opL opR op 94 (some ⟨x1, 0, none⟩) x2 r2 x3 r3 84 (some ⟨x4, 0, none⟩) w (by decide) (by decide) (c2 rfl).1 (c2 rfl).2 (c3 rfl).1 (c3 rfl).2 (by decide) hA hB hl hr hrr
    · cases hrr : (r2 == r3)
      · exact cSF_df bA bB opL opR op 94 (some ⟨x1, 0, none⟩) x2 r2 x3 r3 94 (some ⟨x4, 0, none⟩) w (c2 rfl).1 (c2 rfl).2 (c3 rfl).1 (c3 rfl).2 (by decide) hA hB hl hr hrr
      · exact cSF_ox bA bB opL opR op 94 (some ⟨x1, 0, none⟩) x2 r2 x3 r3 94 (some ⟨x4, 0, none⟩) w (by decide) (by decide) (c2 rfl).1 (c2 rfl).2 (c3 rfl).1 (c3 rfl).2 (by decide) hA hB hl hr hrr
  · rcases n4 with _ | _ | _ | _ | n4
    case succ => omega
    · cases hrr : (r2 == r4)
      · exact cSS_df bA bB opL opR op 94 (some ⟨x1, 0, none⟩) x2 r2 82 (some ⟨x3, 0, none⟩) x4 r4 w (c2 rfl).1 (c2 rfl).2 (c4 rfl).1 (c4 rfl).2 hA hB hl hr hrr
      · exact cSS_ox bA bB opL opR op 94 (some ⟨x1, 0, none⟩) x2 r2 82 (some ⟨x3, 0, none⟩) x4 r4 w (by decide) (by decide) (c2 rfl).1 (c2 rfl).2 (c4 rfl).1 (c4 rfl).2 hA hB hl hr hrr
    · exact cS_N bA bB opL opR op 94 (some ⟨x1, 0, none⟩) x2 r2 82 (some ⟨x3, 0, none⟩) 82 (some ⟨x4, 0, none⟩) w (c2 rfl).1 (c2 rfl).2 (by decide) (by decide) hA hB hl hr
    · exact cS_N bA bB opL opR op 94 (some ⟨x1, 0, none⟩) x2 r2 82 (some ⟨x3, 0, none⟩) 84 (some ⟨x4, 0, none⟩) w (c2 rfl).1 (c2 rfl).2 (by decide) (by decide) hA hB hl hr
    · exact cS_N bA bB opL opR op 94 (some ⟨x1, 0, none⟩) x2 r2 82 (some ⟨x3, 0, none⟩) 94 (some ⟨x4, 0, none⟩) w (c2 rfl).1 (c2 rfl).2 (by decide) (by decide) hA hB hl hr
  · rcases n4 with _ | _ | _ | _ | n4
    case succ => omega
    · cases hrr : (r2 == r4)
      · exact cSS_df bA bB opL opR op 94 (some ⟨x1, 0, none⟩) x2 r2 84 (some ⟨x3, 0, none⟩) x4 r4 w (c2 rfl).1 (c2 rfl).2 (c4 rfl).1 (c4 rfl).2 hA hB hl hr hrr
      · exact cSS_ox bA bB opL opR op 94 (some ⟨x1, 0, none⟩) x2 r2 84 (some ⟨x3, 0, none⟩) x4 r4 w (by decide) (by decide) (c2 rfl).1 (c2 rfl).2 (c4 rfl).1 (c4 rfl).2 hA hB hl hr hrr
    · exact cS_N bA bB opL opR op 94 (some ⟨x1, 0, none⟩) x2 r2 84 (some ⟨x3, 0, none⟩) 82 (some ⟨x4, 0, none⟩) w (c2 rfl).1 (c2 rfl).2 (by decide) (by decide) hA hB hl hr
    · exact cS_N bA bB opL opR op 94 (some ⟨x1, 0, none⟩) x2 r2 84 (some ⟨x3, 0, none⟩) 84 (some ⟨x4, 0, none⟩) w (c2 rfl).1 (c2 rfl).2 (by decide) (by decide) hA hB hl hr
    · exact cS_N bA bB opL opR op 94 (some ⟨x1, 0, none⟩) x2 r2 84 (some ⟨x3, 0, none⟩) 94 (some ⟨x4, 0, none⟩) w (c2 rfl).1 (c2 rfl).2 (by decide) (by decide) hA hB hl hr
  · rcases n4 with _ | _ | _ | _ | n4
    case succ => omega
    · cases hrr : (r2 == r4)
      · exact cSS_df bA bB opL opR op 94 (some ⟨x1, 0, none⟩) x2 r2 94 (some ⟨x3, 0, none⟩) x4 r4 w (c2 rfl).1 (c2 rfl).2 (c4 rfl).1 (c4 rfl).2 hA hB hl hr hrr
      · exact cSS_ox bA bB opL opR op 94 (some ⟨x1, 0, none⟩) x2 r2 94 (some ⟨x3, 0, none⟩) x4 r4 w (by decide) (by decide) (c2 rfl).1 (c2 rfl).2 (c4 rfl).1 (c4 rfl).2 hA hB hl hr hrr
    · exact cS_N bA bB opL opR op 94 (some ⟨x1, 0, none⟩) x2 r2 94 (some ⟨x3, 0, none⟩) 82 (some ⟨x4, 0, none⟩) w (c2 rfl).1 (c2 rfl).2 (by decide) (by decide) hA hB hl hr
    · exact cS_N bA bB opL opR op 94 (some ⟨x1, 0, none⟩) x2 r2 94 (some ⟨x3, 0, none⟩) 84 (some ⟨x4, 0, none⟩) w (c2 rfl).1 (c2 rfl).2 (by decide) (by decide) hA hB hl hr
    · exact cS_N bA bB opL opR op 94 (some ⟨x1, 0, none⟩) x2 r2 94 (some ⟨x3, 0, none⟩) 94 (some ⟨x4, 0, none⟩) w (c2 rfl).1 (c2 rfl).2 (by decide) (by decide) hA hB hl hr

theorem no_31 (n3 n4 : Nat) (r1 r2 r3 r4 : Int) (v1 v2 v3 v4 : Value) (bA bB : Nat) (opL opR op : Int) (w : World) (h1 : Opd w 3 r1 v1) (h2 : Opd w 1 r2 v2) (h3 : Opd w n3 r3 v3) (h4 : Opd w n4 r4 v4) (hA : Bin w bA v1 0 v2 0 opL) (hB : Bin w bB v3 0 v4 0 opR) (g3 : n3 < 4) (g4 : n4 < 4) (hl : (opL == op) = true) (hr : (opR == op) = true)
    (hw : (okS 3 1 && okS n3 n4 && (refS 3 1 r1 r2 == refS n3 n4 r3 r4) && (litS 3 1 != litS n3 n4)) = false) :
    Calls Try.prog 8 #[.agg #[.iface 68 (.pointer (some ⟨bA, 0, none⟩)), .int .i32 0], .agg #[.iface 68 (.pointer (some ⟨bB, 0, none⟩)), .int .i32 0], .int .u8 op] w fun e w' => e = .returned (.tuple #[.agg #[.nilIface, .int .i32 0], .agg #[.nilIface, .int .i32 0], .bool false]) ∧ Below w.heap.size w w' := by
  obtain ⟨x1, rfl, c1, _⟩ := h1
  obtain ⟨x2, rfl, c2, _⟩ := h2
  obtain ⟨x3, rfl, c3, _⟩ := h3
  obtain ⟨x4, rfl, c4, _⟩ := h4
  rcases n3 with _ | _ | _ | _ | n3
  case succ => omega
  · rcases n4 with _ | _ | _ | _ | n4
    case succ => omega
    · exact cN_S bA bB opL opR op 94 (some ⟨x1, 0, none⟩) 82 (some ⟨x2, 0, none⟩) 43 (some ⟨x3, 0, none⟩) x4 r4 w (by decide) (by decide) (c4 rfl).1 (c4 rfl).2 hA hB hl hr
    · exact cN_F bA bB opL opR op 94 (some ⟨x1, 0, none⟩) 82 (some ⟨x2, 0, none⟩) 43 (some ⟨x3, 0, none⟩) 82 (some ⟨x4, 0, none⟩) w (by decide) (by decide) (by decide) hA hB hl hr
    · exact cN_F bA bB opL opR op 94 (some ⟨x1, 0, none⟩) 82 (some ⟨x2, 0, none⟩) 43 (some ⟨x3, 0, none⟩) 84 (some ⟨x4, 0, none⟩) w (by decide) (by decide) (by decide) hA hB hl hr
    · exact cN_F bA bB opL opR op 94 (some ⟨x1, 0, none⟩) 82 (some ⟨x2, 0, none⟩) 43 (some ⟨x3, 0, none⟩) 94 (some ⟨x4, 0, none⟩) w (by decide) (by decide) (by decide) hA hB hl hr
  · rcases n4 with _ | _ | _ | _ | n4
    case succ => omega
    · exact cN_S bA bB opL opR op 94 (some ⟨x1, 0, none⟩) 82 (some ⟨x2, 0, none⟩) 82 (some ⟨x3, 0, none⟩) x4 r4 w (by decide) (by decide) (c4 rfl).1 (c4 rfl).2 hA hB hl hr
    · exact cN_F bA bB opL opR op 94 (some ⟨x1, 0, none⟩) 82 (some ⟨x2, 0, none⟩) 82 (some ⟨x3, 0, none⟩) 82 (some ⟨x4, 0, none⟩) w (by decide) (by decide) (by decide) hA hB hl hr
    · exact cN_F bA bB opL opR op 94 (some ⟨x1, 0, none⟩) 82 (some ⟨x2, 0, none⟩) 82 (some ⟨x3, 0, none⟩) 84 (some ⟨x4, 0, none⟩) w (by decide) (by decide) (by decide) hA hB hl hr
    · exact cN_F bA bB opL opR op 94 (some ⟨x1, 0, none⟩) 82 (some ⟨x2, 0, none⟩) 82 (some ⟨x3, 0, none⟩) 94 (some ⟨x4, 0, none⟩) w (by decide) (by decide) (by decide) hA hB hl hr
  · rcases n4 with _ | _ | _ | _ | n4
    case succ => omega
    · exact cN_S bA bB opL opR op 94 (some ⟨x1, 0, none⟩) 82 (some ⟨x2, 0, none⟩) 84 (some ⟨x3, 0, none⟩) x4 r4 w (by decide) (by decide) (c4 rfl).1 (c4 rfl).2 hA hB hl hr
    · exact cN_F bA bB opL opR op 94 (some ⟨x1, 0, none⟩) 82 (some ⟨x2, 0, none⟩) 84 (some ⟨x3, 0, none⟩) 82 (some ⟨x4, 0, none⟩) w (by decide) (by decide) (by decide) hA hB hl hr
    · exact cN_F bA bB opL opR op 94 (some ⟨x1, 0, none⟩) 82 (some ⟨x2, 0, none⟩) 84 (some ⟨x3, 0, none⟩) 84 (some ⟨x4, 0, none⟩) w (by decide) (by decide) (by decide) hA hB hl hr
    · exact cN_F bA bB opL opR op 94 (some ⟨x1, 0, none⟩) 82 (some ⟨x2, 0, none⟩) 84 (some ⟨x3, 0, none⟩) 94 (some ⟨x4, 0, none⟩) w (by decide) (by decide) (by decide) hA hB hl hr
  · rcases n4 with _ | _ | _ | _ | n4
    case succ => omega
    · exact cN_S bA bB opL opR op 94 (some ⟨x1, 0, none⟩) 82 (some ⟨x2, 0, none⟩) 94 (some ⟨x3, 0, none⟩) x4 r4 w (by decide) (by decide) (c4 rfl).1 (c4 rfl).2 hA hB hl hr
    · exact cN_F bA bB opL opR op 94 (some ⟨x1, 0, none⟩) 82 (some ⟨x2, 0, none⟩) 94 (some ⟨x3, 0, none⟩) 82 (some ⟨x4, 0, none⟩) w (by decide) (by decide) (by decide) hA hB hl hr
    · exact cN_F bA bB opL opR op 94 (some ⟨x1, 0, none⟩) 82 (some ⟨x2, 0, none⟩) 94 (some ⟨x3, 0, none⟩) 84 (some ⟨x4, 0, none⟩) w (by decide) (by decide) (by decide) hA hB hl hr
    · exact cN_F bA bB opL opR op 94 (some ⟨x1, 0, none⟩) 82 (some ⟨x2, 0, none⟩) 94 (some ⟨x3, 0, none⟩) 94 (some ⟨x4, 0, none⟩) w (by decide) (by decide) (by decide) hA hB hl hr

theorem no_32 (n3 n4 : Nat) (r1 r2 r3 r4 : Int) (v1 v2 v3 v4 : Value) (bA bB : Nat) (opL opR op : Int) (w : World) (h1 : Opd w 3 r1 v1) (h2 : Opd w 2 r2 v2) (h3 : Opd w n3 r3 v3) (h4 : Opd w n4 r4 v4) (hA : Bin w bA v1 0 v2 0 opL) (hB : Bin w bB v3 0 v4 0 opR) (g3 : n3 < 4) (g4 : n4 < 4) (hl : (opL == op) = true) (hr : (opR == op) = true)
    (hw : (okS 3 2 && okS n3 n4 && (refS 3 2 r1 r2 == refS n3 n4 r3 r4) && (litS 3 2 != litS n3 n4)) = false) :
    Calls Try.prog 8 #[.agg #[.iface 68 (.pointer (some ⟨bA, 0, none⟩)), .int .i32 0], .agg #[.iface 68 (.pointer (some ⟨bB, 0, none⟩)), .int .i32 0], .int .u8 op] w fun e w' => e = .returned (.tuple #[.agg #[.nilIface, .int .i32 0], .agg #[.nilIface, .int .i32 0], .bool false]) ∧ Below w.heap.size w w' := by
  obtain ⟨x1, rfl, c1, _⟩ := h1
  obtain ⟨x2, rfl, c2, _⟩ := h2
  obtain ⟨x3, rfl, c3, _⟩ := h3
  obtain ⟨x4, rfl, c4, _⟩ := h4
  rcases n3 with _ | _ | _ | _ | n3
  case succ => omega
  · rcases n4 with _ | _ | _ | _ | n4
    case succ => omega
    · exact cN_S bA bB opL opR op 94 (some ⟨x1, 0, none⟩) 84 (some ⟨x2, 0, none⟩) 43 (some ⟨x3, 0, none⟩) x4 r4 w (by decide) (by decide) (c4 rfl).1 (c4 rfl).2 hA hB hl hr
    · exact cN_F bA bB opL opR op 94 (some ⟨x1, 0, none⟩) 84 (some ⟨x2, 0, none⟩) 43 (some ⟨x3, 0, none⟩) 82 (some ⟨x4, 0, none⟩) w (by decide) (by decide) (by decide) hA hB hl hr
    · exact cN_F bA bB opL opR op 94 (some ⟨x1, 0, none⟩) 84 (some ⟨x2, 0, none⟩) 43 (some ⟨x3, 0, none⟩) 84 (some ⟨x4, 0, none⟩) w (by decide) (by decide) (by decide) hA hB hl hr
    · exact cN_F bA bB opL opR op 94 (some ⟨x1, 0, none⟩) 84 (some ⟨x2, 0, none⟩) 43 (some ⟨x3, 0, none⟩) 94 (some ⟨x4, 0, none⟩) w (by decide) (by decide) (by decide) hA hB hl hr
  · rcases n4 with _ | _ | _ | _ | n4
    case succ => omega
    · exact cN_S bA bB opL opR op 94 (some ⟨x1, 0, none⟩) 84 (some ⟨x2, 0, none⟩) 82 (some ⟨x3, 0, none⟩) x4 r4 w (by decide) (by decide) (c4 rfl).1 (c4 rfl).2 hA hB hl hr
    · exact cN_F bA bB opL opR op 94 (some ⟨x1, 0, none⟩) 84 (some ⟨x2, 0, none⟩) 82 (some ⟨x3, 0, none⟩) 82 (some ⟨x4, 0, none⟩) w (by decide) (by decide) (by decide) hA hB hl hr
    · exact cN_F bA bB opL opR op 94 (some ⟨x1, 0, none⟩) 84 (some ⟨x2, 0, none⟩) 82 (some ⟨x3, 0, none⟩) 84 (some ⟨x4, 0, none⟩) w (by decide) (by decide) (by decide) hA hB hl hr
    · exact cN_F bA bB opL opR op 94 (some ⟨x1, 0, none⟩) 84 (some ⟨x2, 0, none⟩) 82 (some ⟨x3, 0, none⟩) 94 (some ⟨x4, 0, none⟩) w (by decide) (by decide) (by decide) hA hB hl hr
  · rcases n4 with _ | _ | _ | _ | n4
    case succ => omega
    · exact cN_S bA bB opL opR op 94 (some ⟨x1, 0, none⟩) 84 (some ⟨x2, 0, none⟩) 84 (some ⟨x3, 0, none⟩) x4 r4 w (by decide) (by decide) (c4 rfl).1 (c4 rfl).2 hA hB hl hr
    · exact cN_F bA bB opL opR op 94 (some ⟨x1, 0, none⟩) 84 (some ⟨x2, 0, none⟩) 84 (some ⟨x3, 0, none⟩) 82 (some ⟨x4, 0, none⟩) w (by decide) (by decide) (by decide) hA hB hl hr
    · exact cN_F bA bB opL opR op 94 (some ⟨x1, 0, none⟩) 84 (some ⟨x2, 0, none⟩) 84 (some ⟨x3, 0, none⟩) 84 (some ⟨x4, 0, none⟩) w (by decide) (by decide) (by decide) hA hB hl hr
    · exact cN_F bA bB opL opR op 94 (some ⟨x1, 0, none⟩) 84 (some ⟨x2, 0, none⟩) 84 (some ⟨x3, 0, none⟩) 94 (some ⟨x4, 0, none⟩) w (by decide) (by decide) (by decide) hA hB hl hr
  · rcases n4 with _ | _ | _ | _ | n4
    case succ => omega
    · exact cN_S bA bB opL opR op 94 (some ⟨x1, 0, none⟩) 84 (some ⟨x2, 0, none⟩) 94 (some ⟨x3, 0, none⟩) x4 r4 w (by decide) (by decide) (c4 rfl).1 (c4 rfl).2 hA hB hl hr
    · exact cN_F bA bB opL opR op 94 (some ⟨x1, 0, none⟩) 84 (some ⟨x2, 0, none⟩) 94 (some ⟨x3, 0, none⟩) 82 (some ⟨x4, 0, none⟩) w (by decide) (by decide) (by decide) hA hB hl hr
    · exact cN_F bA bB opL opR op 94 (some ⟨x1, 0, none⟩) 84 (some ⟨x2, 0, none⟩) 94 (some ⟨x3, 0, none⟩) 84 (some ⟨x4, 0, none⟩) w (by decide) (by decide) (by decide) hA hB hl hr
    · exact cN_F bA bB opL opR op 94 (some ⟨x1, 0, none⟩) 84 (some ⟨x2, 0, none⟩) 94 (some ⟨x3, 0, none⟩) 94 (some ⟨x4, 0, none⟩) w (by decide) (by decide) (by decide) hA hB hl hr

theorem no_33 (n3 n4 : Nat) (r1 r2 r3 r4 : Int) (v1 v2 v3 v4 : Value) (bA bB : Nat) (opL opR op : Int) (w : World) (h1 : Opd w 3 r1 v1) (h2 : Opd w 3 r2 v2) (h3 : Opd w n3 r3 v3) (h4 : Opd w n4 r4 v4) (hA : Bin w bA v1 0 v2 0 opL) (hB : Bin w bB v3 0 v4 0 opR) (g3 : n3 < 4) (g4 : n4 < 4) (hl : (opL == op) = true) (hr : (opR == op) = true)
    (hw : (okS 3 3 && okS n3 n4 && (refS 3 3 r1 r2 == refS n3 n4 r3 r4) && (litS 3 3 != litS n3 n4)) = false) :
    Calls Try.prog 8 #[.agg #[.iface 68 (.pointer (some ⟨bA, 0, none⟩)), .int .i32 0], .agg #[.iface 68 (.pointer (some ⟨bB, 0, none⟩)), .int .i32 0], .int .u8 op] w fun e w' => e = .returned (.tuple #[.agg #[.nilIface, .int .i32 0], .agg #[.nilIface, .int .i32 0], .bool false]) ∧ Below w.heap.size w w' := by
  obtain ⟨x1, rfl, c1, _⟩ := h1
  obtain ⟨x2, rfl, c2, _⟩ := h2
  obtain ⟨x3, rfl, c3, _⟩ := h3
  obtain ⟨x4, rfl, c4, _⟩ := h4
  rcases n3 with _ | _ | _ | _ | n3
  case succ => omega
  · rcases n4 with _ | _ | _ | _ | n4
    case succ => omega
    · exact cN_S bA bB opL opR op 94 (some ⟨x1, 0, none⟩) 94 (some ⟨x2, 0, none⟩) 43 (some ⟨x3, 0, none⟩) x4 r4 w (by decide) (by decide) (c4 rfl).1 (c4 rfl).2 hA hB hl hr
    · exact cN_F bA bB opL opR op 94 (some ⟨x1, 0, none⟩) 94 (some ⟨x2, 0, none⟩) 43 (some ⟨x3, 0, none⟩) 82 (some ⟨x4, 0, none⟩) w (by decide) (by decide) (by decide) hA hB hl hr
    · exact cN_F bA bB opL opR op 94 (some ⟨x1, 0, none⟩) 94 (some ⟨x2, 0, none⟩) 43 (some ⟨x3, 0, none⟩) 84 (some ⟨x4, 0, none⟩) w (by decide) (by decide) (by decide) hA hB hl hr
    · exact cN_F bA bB opL opR op 94 (some ⟨x1, 0, none⟩) 94 (some ⟨x2, 0, none⟩) 43 (some ⟨x3, 0, none⟩) 94 (some ⟨x4, 0, none⟩) w (by decide) (by decide) (by decide) hA hB hl hr
  · rcases n4 with _ | _ | _ | _ | n4
    case succ => omega
    · exact cN_S bA bB opL opR op 94 (some ⟨x1, 0, none⟩) 94 (some ⟨x2, 0, none⟩) 82 (some ⟨x3, 0, none⟩) x4 r4 w (by decide) (by decide) (c4 rfl).1 (c4 rfl).2 hA hB hl hr
    · exact cN_F bA bB opL opR op 94 (some ⟨x1, 0, none⟩) 94 (some ⟨x2, 0, none⟩) 82 (some ⟨x3, 0, none⟩) 82 (some ⟨x4, 0, none⟩) w (by decide) (by decide) (by decide) hA hB hl hr
    · exact cN_F bA bB opL opR op 94 (some ⟨x1, 0, none⟩) 94 (some ⟨x2, 0, none⟩) 82 (some ⟨x3, 0, none⟩) 84 (some ⟨x4, 0, none⟩) w (by decide) (by decide) (by decide) hA hB hl hr
    · exact cN_F bA bB opL opR op 94 (some ⟨x1, 0, none⟩) 94 (some ⟨x2, 0, none⟩) 82 (some ⟨x3, 0, none⟩) 94 (some ⟨x4, 0, none⟩) w (by decide) (by decide) (by decide) hA hB hl hr
  · rcases n4 with _ | _ | _ | _ | n4
    case succ => omega
    · exact cN_S bA bB opL opR op 94 (some ⟨x1, 0, none⟩) 94 (some ⟨x2, 0, none⟩) 84 (some ⟨x3, 0, none⟩) x4 r4 w (by decide) (by decide) (c4 rfl).1 (c4 rfl).2 hA hB hl hr
    · exact cN_F bA bB opL opR op 94 (some ⟨x1, 0, none⟩) 94 (some ⟨x2, 0, none⟩) 84 (some ⟨x3, 0, none⟩) 82 (some ⟨x4, 0, none⟩) w (by decide) (by decide) (by decide) hA hB hl hr
    · exact cN_F bA bB opL opR op 94 (some ⟨x1, 0, none⟩) 94 (some ⟨x2, 0, none⟩) 84 (some ⟨x3, 0, none⟩) 84 (some ⟨x4, 0, none⟩) w (by decide) (by decide) (by decide) hA hB hl hr
    · exact cN_F bA bB opL opR op 94 (some ⟨x1, 0, none⟩) 94 (some ⟨x2, 0, none⟩) 84 (some ⟨x3, 0, none⟩) 94 (some ⟨x4, 0, none⟩) w (by decide) (by decide) (by decide) hA hB hl hr
  · rcases n4 with _ | _ | _ | _ | n4
    case succ => omega
    · exact cN_S bA bB opL opR op 94 (some ⟨x1, 0, none⟩) 94 (some ⟨x2, 0, none⟩) 94 (some ⟨x3, 0, none⟩) x4 r4 w (by decide) (by decide) (c4 rfl).1 (c4 rfl).2 hA hB hl hr
    · exact cN_F bA bB opL opR op 94 (some ⟨x1, 0, none⟩) 94 (some ⟨x2, 0, none⟩) 94 (some ⟨x3, 0, none⟩) 82 (some ⟨x4, 0, none⟩) w (by decide) (by decide) (by decide) hA hB hl hr
    · exact cN_F bA bB opL opR op 94 (some ⟨x1, 0, none⟩) 94 (some ⟨x2, 0, none⟩) 94 (some ⟨x3, 0, none⟩) 84 (some ⟨x4, 0, none⟩) w (by decide) (by decide) (by decide) hA hB hl hr
    · exact cN_F bA bB opL opR op 94 (some ⟨x1, 0, none⟩) 94 (some ⟨x2, 0, none⟩) 94 (some ⟨x3, 0, none⟩) 94 (some ⟨x4, 0, none⟩) w (by decide) (by decide) (by decide) hA hB hl hr
end Go.Proofs.YtonhekaakddneaaRRR.fnIsBinaryNullAndUndefinedExactShape
