/- Proved here: the law FnIsBinaryNullAndUndefinedExactShape returns true, for every input (the walk, joined). -/
import Derived.Test.YtonhekaakddneaaRRRNH
import Derived.WalkKit
import Derived.WalkSpells
import Derived.WalkLawsBesides
import Derived.Lib.Hide
import Derived.Test.YtonhekaakddneaaRRRNG
namespace Go.Proofs.YtonhekaakddneaaRRR.fnIsBinaryNullAndUndefinedExactShape
open Go.RowKit
set_option linter.unusedSimpArgs false
set_option linter.unusedVariables false

theorem no_any (n1 n2 n3 n4 : Nat) (r1 r2 r3 r4 : Int) (v1 v2 v3 v4 : Value) (bA bB : Nat) (opL opR op : Int) (w : World) (l1 : n1 < 4) (l2 : n2 < 4) (h1 : Opd w n1 r1 v1) (h2 : Opd w n2 r2 v2) (h3 : Opd w n3 r3 v3) (h4 : Opd w n4 r4 v4) (hA : Bin w bA v1 0 v2 0 opL) (hB : Bin w bB v3 0 v4 0 opR) (g3 : n3 < 4) (g4 : n4 < 4) (hl : (opL == op) = true) (hr : (opR == op) = true)
    (hw : (okS n1 n2 && okS n3 n4 && (refS n1 n2 r1 r2 == refS n3 n4 r3 r4) && (litS n1 n2 != litS n3 n4)) = false) :
    Calls Try.prog 8 #[.agg #[.iface 68 (.pointer (some ⟨bA, 0, none⟩)), .int .i32 0], .agg #[.iface 68 (.pointer (some ⟨bB, 0, none⟩)), .int .i32 0], .int .u8 op] w fun e w' => e = .returned (.tuple #[.agg #[.nilIface, .int .i32 0], .agg #[.nilIface, .int .i32 0], .bool false]) ∧ Below w.heap.size w w' := by
  rcases n1 with _ | _ | _ | _ | n1
  case succ => omega
  · rcases n2 with _ | _ | _ | _ | n2
    case succ => omega
    · exact no_00 n3 n4 r1 r2 r3 r4 v1 v2 v3 v4 bA bB opL opR op w h1 h2 h3 h4 hA hB g3 g4 hl hr hw
    · exact no_01 n3 n4 r1 r2 r3 r4 v1 v2 v3 v4 bA bB opL opR op w h1 h2 h3 h4 hA hB g3 g4 hl hr hw
    · exact no_02 n3 n4 r1 r2 r3 r4 v1 v2 v3 v4 bA bB opL opR op w h1 h2 h3 h4 hA hB g3 g4 hl hr hw
    · exact no_03 n3 n4 r1 r2 r3 r4 v1 v2 v3 v4 bA bB opL opR op w h1 h2 h3 h4 hA hB g3 g4 hl hr hw
  · rcases n2 with _ | _ | _ | _ | n2
    case succ => omega
    · exact no_10 n3 n4 r1 r2 r3 r4 v1 v2 v3 v4 bA bB opL opR op w h1 h2 h3 h4 hA hB g3 g4 hl hr hw
    · exact no_11 n3 n4 r1 r2 r3 r4 v1 v2 v3 v4 bA bB opL opR op w h1 h2 h3 h4 hA hB g3 g4 hl hr hw
    · exact no_12 n3 n4 r1 r2 r3 r4 v1 v2 v3 v4 bA bB opL opR op w h1 h2 h3 h4 hA hB g3 g4 hl hr hw
    · exact no_13 n3 n4 r1 r2 r3 r4 v1 v2 v3 v4 bA bB opL opR op w h1 h2 h3 h4 hA hB g3 g4 hl hr hw
  · rcases n2 with _ | _ | _ | _ | n2
    case succ => omega
    · exact no_20 n3 n4 r1 r2 r3 r4 v1 v2 v3 v4 bA bB opL opR op w h1 h2 h3 h4 hA hB g3 g4 hl hr hw
    · exact no_21 n3 n4 r1 r2 r3 r4 v1 v2 v3 v4 bA bB opL opR op w h1 h2 h3 h4 hA hB g3 g4 hl hr hw
    · exact no_22 n3 n4 r1 r2 r3 r4 v1 v2 v3 v4 bA bB opL opR op w h1 h2 h3 h4 hA hB g3 g4 hl hr hw
    · exact no_23 n3 n4 r1 r2 r3 r4 v1 v2 v3 v4 bA bB opL opR op w h1 h2 h3 h4 hA hB g3 g4 hl hr hw
  · rcases n2 with _ | _ | _ | _ | n2
    case succ => omega
    · exact no_30 n3 n4 r1 r2 r3 r4 v1 v2 v3 v4 bA bB opL opR op w h1 h2 h3 h4 hA hB g3 g4 hl hr hw
    · exact no_31 n3 n4 r1 r2 r3 r4 v1 v2 v3 v4 bA bB opL opR op w h1 h2 h3 h4 hA hB g3 g4 hl hr hw
    · exact no_32 n3 n4 r1 r2 r3 r4 v1 v2 v3 v4 bA bB opL opR op w h1 h2 h3 h4 hA hB g3 g4 hl hr hw
    · exact no_33 n3 n4 r1 r2 r3 r4 v1 v2 v3 v4 bA bB opL opR op w h1 h2 h3 h4 hA hB g3 g4 hl hr hw

theorem lit1 : ∀ n, n < 4 → ∀ m, m < 4 → (okS n m && decide (litS n m = 1)) = true → (n = 0 ∧ m = 1) ∨ (n = 1 ∧ m = 0) := by decide
theorem lit2 : ∀ n, n < 4 → ∀ m, m < 4 → (okS n m && decide (litS n m = 2)) = true → (n = 0 ∧ m = 2) ∨ (n = 2 ∧ m = 0) := by decide
theorem lit12 : ∀ n, n < 4 → ∀ m, m < 4 → okS n m = true → litS n m = 1 ∨ litS n m = 2 := by decide

theorem yes_A (n1 n2 n3 n4 : Nat) (r1 r2 r3 r4 : Int) (v1 v2 v3 v4 : Value) (bA bB : Nat) (opL opR op : Int) (w : World) (l1 : n1 < 4) (l2 : n2 < 4) (l3 : n3 < 4) (l4 : n4 < 4) (h1 : Opd w n1 r1 v1) (h2 : Opd w n2 r2 v2) (h3 : Opd w n3 r3 v3) (h4 : Opd w n4 r4 v4) (hA : Bin w bA v1 0 v2 0 opL) (hB : Bin w bB v3 0 v4 0 opR) (hl : (opL == op) = true) (hr : (opR == op) = true)
    (oa : okS n1 n2 = true) (ob : okS n3 n4 = true) (hrf : (refS n1 n2 r1 r2 == refS n3 n4 r3 r4) = true) (za : litS n1 n2 = 1) (zb : litS n3 n4 = 2) :
    Calls Try.prog 8 #[.agg #[.iface 68 (.pointer (some ⟨bA, 0, none⟩)), .int .i32 0], .agg #[.iface 68 (.pointer (some ⟨bB, 0, none⟩)), .int .i32 0], .int .u8 op] w fun e w' => e = .returned (.tuple #[.agg #[v1, .int .i32 0], .agg #[v2, .int .i32 0], .bool true]) ∧ Below w.heap.size w w' := by
  obtain ⟨x1, rfl, c1, _⟩ := h1
  obtain ⟨x2, rfl, c2, _⟩ := h2
  obtain ⟨x3, rfl, c3, _⟩ := h3
  obtain ⟨x4, rfl, c4, _⟩ := h4
  rcases lit1 n1 l1 n2 l2 (by simp [oa, za]) with ⟨rfl, rfl⟩ | ⟨rfl, rfl⟩
  · rcases lit2 n3 l3 n4 l4 (by simp [ob, zb]) with ⟨rfl, rfl⟩ | ⟨rfl, rfl⟩
    · have hrr : (r1 == r3) = true := hrf
      exact cFF_nu bA bB opL opR op x1 r1 (some ⟨x2, 0, none⟩) x3 r3 (some ⟨x4, 0, none⟩) w (c1 rfl).1 (c1 rfl).2 (c3 rfl).1 (c3 rfl).2 hA hB hl hr hrr
    · have hrr : (r1 == r4) = true := hrf
      exact cFS_nu bA bB opL opR op x1 r1 (some ⟨x2, 0, none⟩) (some ⟨x3, 0, none⟩) x4 r4 w (c1 rfl).1 (c1 rfl).2 (c4 rfl).1 (c4 rfl).2 hA hB hl hr hrr
  · rcases lit2 n3 l3 n4 l4 (by simp [ob, zb]) with ⟨rfl, rfl⟩ | ⟨rfl, rfl⟩
    · have hrr : (r2 == r3) = true := hrf
      exact cSF_nu bA bB opL opR op (some ⟨x1, 0, none⟩) x2 r2 x3 r3 (some ⟨x4, 0, none⟩) w (c2 rfl).1 (c2 rfl).2 (c3 rfl).1 (c3 rfl).2 hA hB hl hr hrr
    · have hrr : (r2 == r4) = true := hrf
      exact cSS_nu bA bB opL opR op (some ⟨x1, 0, none⟩) x2 r2 (some ⟨x3, 0, none⟩) x4 r4 w (c2 rfl).1 (c2 rfl).2 (c4 rfl).1 (c4 rfl).2 hA hB hl hr hrr

theorem yes_B (n1 n2 n3 n4 : Nat) (r1 r2 r3 r4 : Int) (v1 v2 v3 v4 : Value) (bA bB : Nat) (opL opR op : Int) (w : World) (l1 : n1 < 4) (l2 : n2 < 4) (l3 : n3 < 4) (l4 : n4 < 4) (h1 : Opd w n1 r1 v1) (h2 : Opd w n2 r2 v2) (h3 : Opd w n3 r3 v3) (h4 : Opd w n4 r4 v4) (hA : Bin w bA v1 0 v2 0 opL) (hB : Bin w bB v3 0 v4 0 opR) (hl : (opL == op) = true) (hr : (opR == op) = true)
    (oa : okS n1 n2 = true) (ob : okS n3 n4 = true) (hrf : (refS n1 n2 r1 r2 == refS n3 n4 r3 r4) = true) (za : litS n1 n2 = 2) (zb : litS n3 n4 = 1) :
    Calls Try.prog 8 #[.agg #[.iface 68 (.pointer (some ⟨bA, 0, none⟩)), .int .i32 0], .agg #[.iface 68 (.pointer (some ⟨bB, 0, none⟩)), .int .i32 0], .int .u8 op] w fun e w' => e = .returned (.tuple #[.agg #[v3, .int .i32 0], .agg #[v4, .int .i32 0], .bool true]) ∧ Below w.heap.size w w' := by
  obtain ⟨x1, rfl, c1, _⟩ := h1
  obtain ⟨x2, rfl, c2, _⟩ := h2
  obtain ⟨x3, rfl, c3, _⟩ := h3
  obtain ⟨x4, rfl, c4, _⟩ := h4
  rcases lit2 n1 l1 n2 l2 (by simp [oa, za]) with ⟨rfl, rfl⟩ | ⟨rfl, rfl⟩
  · rcases lit1 n3 l3 n4 l4 (by simp [ob, zb]) with ⟨rfl, rfl⟩ | ⟨rfl, rfl⟩
    · have hrr : (r1 == r3) = true := hrf
      exact cFF_un bA bB opL opR op x1 r1 (some ⟨x2, 0, none⟩) x3 r3 (some ⟨x4, 0, none⟩) w (c1 rfl).1 (c1 rfl).2 (c3 rfl).1 (c3 rfl).2 hA hB hl hr hrr
    · have hrr : (r1 == r4) = true := hrf
      exact cFS_un bA bB opL opR op x1 r1 (some ⟨x2, 0, none⟩) (some ⟨x3, 0, none⟩) x4 r4 w (c1 rfl).1 (c1 rfl).2 (c4 rfl).1 (c4 rfl).2 hA hB hl hr hrr
  · rcases lit1 n3 l3 n4 l4 (by simp [ob, zb]) with ⟨rfl, rfl⟩ | ⟨rfl, rfl⟩
    · have hrr : (r2 == r3) = true := hrf
      exact cSF_un bA bB opL opR op (some ⟨x1, 0, none⟩) x2 r2 x3 r3 (some ⟨x4, 0, none⟩) w (c2 rfl).1 (c2 rfl).2 (c3 rfl).1 (c3 rfl).2 hA hB hl hr hrr
    · have hrr : (r2 == r4) = true := hrf
      exact cSS_un bA bB opL opR op (some ⟨x1, 0, none⟩) x2 r2 (some ⟨x3, 0, none⟩) x4 r4 w (c2 rfl).1 (c2 rfl).2 (c4 rfl).1 (c4 rfl).2 hA hB hl hr hrr

theorem walk (op opL opR k1 k2 k3 k4 r1 r2 r3 r4 : Int) (w : World) (w0 : (Lit.int .u8 op).wf = true) (w1 : (Lit.int .u8 opL).wf = true) (w2 : (Lit.int .u8 opR).wf = true) (w3 : (Lit.int .u8 k1).wf = true) (w4 : (Lit.int .u8 k2).wf = true) (w5 : (Lit.int .u8 k3).wf = true) (w6 : (Lit.int .u8 k4).wf = true) (w7 : (Lit.int .u32 r1).wf = true) (w8 : (Lit.int .u32 r2).wf = true) (w9 : (Lit.int .u32 r3).wf = true) (w10 : (Lit.int .u32 r4).wf = true) :
    Calls Try.prog 3 #[.int .u8 op, .int .u8 opL, .int .u8 opR, .int .u8 k1, .int .u8 k2, .int .u8 k3, .int .u8 k4, .int .u32 r1, .int .u32 r2, .int .u32 r3, .int .u32 r4] w fun e w' => e = .returned (.bool true) ∧ Below w.heap.size w w' := by
  have h1 := wf_u8 w3
  have h2 := wf_u8 w4
  have h3 := wf_u8 w5
  have h4 := wf_u8 w6
  obtain ⟨n1, e1⟩ := Int.eq_ofNat_of_zero_le (show 0 ≤ k1 % 4 by omega)
  obtain ⟨n2, e2⟩ := Int.eq_ofNat_of_zero_le (show 0 ≤ k2 % 4 by omega)
  obtain ⟨n3, e3⟩ := Int.eq_ofNat_of_zero_le (show 0 ≤ k3 % 4 by omega)
  obtain ⟨n4, e4⟩ := Int.eq_ofNat_of_zero_le (show 0 ≤ k4 % 4 by omega)
  have l1 : n1 < 4 := by omega
  have l2 : n2 < 4 := by omega
  have l3 : n3 < 4 := by omega
  have l4 : n4 < 4 := by omega
  cases hl : (opL == op)
  · exact w_opL op opL opR n1 n2 n3 n4 k1 k2 k3 k4 r1 r2 r3 r4 w h1.1 h1.2 h2.1 h2.2 h3.1 h3.2 h4.1 h4.2 (by omega) (by omega) (by omega) (by omega) e1 e2 e3 e4 hl (fun v1 v2 v3 v4 bA bB W _ _ _ _ hA hB => f8_opL bA bB opL opR op v1 v2 v3 v4 W hA hB hl)
  cases hr : (opR == op)
  · exact w_opR op opL opR n1 n2 n3 n4 k1 k2 k3 k4 r1 r2 r3 r4 w h1.1 h1.2 h2.1 h2.2 h3.1 h3.2 h4.1 h4.2 (by omega) (by omega) (by omega) (by omega) e1 e2 e3 e4 hl hr (fun v1 v2 v3 v4 bA bB W _ _ _ _ hA hB => f8_opR bA bB opL opR op v1 v2 v3 v4 W hA hB hl hr)
  cases oa : okS n1 n2
  · exact w_okA op opL opR n1 n2 n3 n4 k1 k2 k3 k4 r1 r2 r3 r4 w h1.1 h1.2 h2.1 h2.2 h3.1 h3.2 h4.1 h4.2 (by omega) (by omega) (by omega) (by omega) e1 e2 e3 e4 hl hr oa (fun v1 v2 v3 v4 bA bB W g1 g2 g3 g4 hA hB => no_any n1 n2 n3 n4 r1 r2 r3 r4 v1 v2 v3 v4 bA bB opL opR op W l1 l2 g1 g2 g3 g4 hA hB l3 l4 hl hr (by rw [oa]; rfl))
  cases ob : okS n3 n4
  · exact w_okB op opL opR n1 n2 n3 n4 k1 k2 k3 k4 r1 r2 r3 r4 w h1.1 h1.2 h2.1 h2.2 h3.1 h3.2 h4.1 h4.2 (by omega) (by omega) (by omega) (by omega) e1 e2 e3 e4 hl hr oa ob (fun v1 v2 v3 v4 bA bB W g1 g2 g3 g4 hA hB => no_any n1 n2 n3 n4 r1 r2 r3 r4 v1 v2 v3 v4 bA bB opL opR op W l1 l2 g1 g2 g3 g4 hA hB l3 l4 hl hr (by rw [oa, ob]; rfl))
  cases hrf : (refS n1 n2 r1 r2 == refS n3 n4 r3 r4)
  · exact w_ref op opL opR n1 n2 n3 n4 k1 k2 k3 k4 r1 r2 r3 r4 w h1.1 h1.2 h2.1 h2.2 h3.1 h3.2 h4.1 h4.2 (by omega) (by omega) (by omega) (by omega) e1 e2 e3 e4 hl hr oa ob hrf (fun v1 v2 v3 v4 bA bB W g1 g2 g3 g4 hA hB => no_any n1 n2 n3 n4 r1 r2 r3 r4 v1 v2 v3 v4 bA bB opL opR op W l1 l2 g1 g2 g3 g4 hA hB l3 l4 hl hr (by rw [oa, ob, hrf]; rfl))
  cases hlt : (litS n1 n2 != litS n3 n4)
  · exact w_lit op opL opR n1 n2 n3 n4 k1 k2 k3 k4 r1 r2 r3 r4 w h1.1 h1.2 h2.1 h2.2 h3.1 h3.2 h4.1 h4.2 (by omega) (by omega) (by omega) (by omega) e1 e2 e3 e4 hl hr oa ob hrf hlt (fun v1 v2 v3 v4 bA bB W g1 g2 g3 g4 hA hB => no_any n1 n2 n3 n4 r1 r2 r3 r4 v1 v2 v3 v4 bA bB opL opR op W l1 l2 g1 g2 g3 g4 hA hB l3 l4 hl hr (by rw [oa, ob, hrf, hlt]; rfl))
  have hne : litS n1 n2 ≠ litS n3 n4 := by simpa using hlt
  rcases lit12 n1 l1 n2 l2 oa with za | za
  · have zb : litS n3 n4 = 2 := by
      rcases lit12 n3 l3 n4 l4 ob with h | h
      · exact absurd (za.trans h.symm) hne
      · exact h
    exact w_A op opL opR n1 n2 n3 n4 k1 k2 k3 k4 r1 r2 r3 r4 w h1.1 h1.2 h2.1 h2.2 h3.1 h3.2 h4.1 h4.2 (by omega) (by omega) (by omega) (by omega) e1 e2 e3 e4 hl hr oa ob hrf za zb (fun v1 v2 v3 v4 bA bB W g1 g2 g3 g4 hA hB => yes_A n1 n2 n3 n4 r1 r2 r3 r4 v1 v2 v3 v4 bA bB opL opR op W l1 l2 l3 l4 g1 g2 g3 g4 hA hB hl hr oa ob hrf za zb)
  · have zb : litS n3 n4 = 1 := by
      rcases lit12 n3 l3 n4 l4 ob with h | h
      · exact h
      · exact absurd (za.trans h.symm) hne
    exact w_B op opL opR n1 n2 n3 n4 k1 k2 k3 k4 r1 r2 r3 r4 w h1.1 h1.2 h2.1 h2.2 h3.1 h3.2 h4.1 h4.2 (by omega) (by omega) (by omega) (by omega) e1 e2 e3 e4 hl hr oa ob hrf za zb (fun v1 v2 v3 v4 bA bB W g1 g2 g3 g4 hA hB => yes_B n1 n2 n3 n4 r1 r2 r3 r4 v1 v2 v3 v4 bA bB opL opR op W l1 l2 l3 l4 g1 g2 g3 g4 hA hB hl hr oa ob hrf za zb)
end Go.Proofs.YtonhekaakddneaaRRR.fnIsBinaryNullAndUndefinedExactShape
