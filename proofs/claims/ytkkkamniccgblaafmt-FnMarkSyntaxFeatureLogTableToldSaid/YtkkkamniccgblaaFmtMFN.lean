/- Proved here: what ZZmarkSyntaxFeature answers. -/
import Derived.Test.YtkkkamniccgblaaFmtMFL
import Derived.Test.YtkkkamniccgblaaFmtMFKa
import Derived.Test.YtkkkamniccgblaaFmtMFKb
import Derived.Test.YtkkkamniccgblaaFmtMFKc
import Derived.Test.YtkkkamniccgblaaFmtMFKd
import Derived.Test.YtkkkamniccgblaaFmtMFKe
import Derived.Test.YtkkkamniccgblaaFmtMFKf
import Derived.WalkKit
import Derived.WalkSpells
import Derived.WalkLawsBesides
import Derived.Lib.Hide
import Derived.Lib.SliceRun
import Derived.Deep.RegionWith
import Derived.BigRegion
import Derived.BigQuiet
import Derived.OwnWalk
import Derived.Laws.OwnMore
import Derived.Deep.Cut
import Derived.Carry
import Derived.IntWalk
import Derived.StillTailTactics
import Derived.Deep.RegionHeld3
namespace Go.Proofs.YtkkkamniccgblaaFmt
open Go.RowKit
set_option linter.unusedSimpArgs false
set_option linter.unusedVariables false

namespace MF
theorem mark (p lv mu he ms o ln : Nat) (env ct a b : ByteArray) (uns : Int) (mask : Nat) (f fmt tbc : Int) (sup : Bool) (D : DD lv mu he ms) (w : World) (ho : o ≤ ct.size) (hln : ln ≤ ct.size) (hs : ct.size ≤ 1048576) (hp0 : p ≠ 0) (hp1 : p ≠ 1) (hpl : p ≠ lv ∧ p ≠ mu ∧ p ≠ he ∧ p ≠ ms) (h : PM w p lv mu he ms env ct a b uns mask fmt tbc sup) (hm : mask < 18446744073709551616) (hlo : o + ln ≤ ct.size) :
    Calls Tryf.prog 11 #[.pointer (some ⟨p, 0, none⟩), .int .u64 f, .agg #[il o, il ln]] w (MSP p lv mu he ms uns f fmt tbc sup w) := by
  cases hu : hasB uns f
  · exact markSup p lv mu he ms o ln env ct a b uns mask f fmt tbc sup D w ho hln hs hp0 hp1 hpl h hu
  by_cases h1 : f = 524288 ∨ f = 36028797018963968 ∨ f = 2 ∨ f = 33554432 ∨ f = 8796093022208
  · exact markNa p lv mu he ms o ln env ct a b uns mask f fmt tbc sup D w ho hln hs hp0 hp1 hpl h hm hlo hu h1
  by_cases h2 : f = 17592186044416 ∨ f = 1048576 ∨ f = 549755813888 ∨ f = 64 ∨ f = 536870912
  · exact markNb p lv mu he ms o ln env ct a b uns mask f fmt tbc sup D w ho hln hs hp0 hp1 hpl h hm hlo hu h2
  by_cases h3 : f = 8 ∨ f = 16 ∨ f = 16777216 ∨ f = 274877906944
  · exact markNc p lv mu he ms o ln env ct a b uns mask f fmt tbc sup D w ho hln hs hp0 hp1 hpl h hm hlo hu h3
  by_cases h4 : f = 131072
  · exact markLet p lv mu he ms o ln env ct a b uns mask f fmt tbc sup D w ho hln hs hp0 hp1 hpl h hm hlo hu h4
  by_cases h5 : f = 4294967296 ∨ f = 8589934592 ∨ f = 34359738368 ∨ f = 144115188075855872
  · exact markOwn p lv mu he ms o ln env ct a b uns mask f fmt tbc sup D w ho hln hs hp0 hp1 hpl h hm hlo hu h5
  by_cases h6 : f = 32
  · exact markId1 p lv mu he ms o ln env ct a b uns mask f fmt tbc sup D w ho hln hs hp0 hp1 hpl h hm hlo hu h6
  by_cases h7 : f = 17179869184
  · exact markId2 p lv mu he ms o ln env ct a b uns mask f fmt tbc sup D w ho hln hs hp0 hp1 hpl h hm hlo hu h7
  exact markDef p lv mu he ms o ln env ct a b uns mask f fmt tbc sup D w ho hln hs hp0 hp1 hpl h hm hlo hu (by
    rintro (e | e | e | e | e | e | e | e | e | e | e | e | e | e | e | e | e | e | e | e | e)
    · exact h1 (by simp [e])
    · exact h1 (by simp [e])
    · exact h1 (by simp [e])
    · exact h1 (by simp [e])
    · exact h1 (by simp [e])
    · exact h2 (by simp [e])
    · exact h2 (by simp [e])
    · exact h2 (by simp [e])
    · exact h4 e
    · exact h2 (by simp [e])
    · exact h2 (by simp [e])
    · exact h3 (by simp [e])
    · exact h3 (by simp [e])
    · exact h3 (by simp [e])
    · exact h3 (by simp [e])
    · exact h5 (by simp [e])
    · exact h5 (by simp [e])
    · exact h5 (by simp [e])
    · exact h5 (by simp [e])
    · exact h6 e
    · exact h7 e
    )
/-- What the log hands out. -/
def OUTP (w' : World) (uns f fmt tbc : Int) (sup : Bool) (a : Option Addr) (n : Nat) : Prop :=
  (resB uns f fmt = false → n = 0) ∧ (resB uns f fmt = true → n = 1 ∧ ∃ G lp s i, a = some ⟨G, 0, none⟩ ∧ ∀ j, j < 8 → w'.cell? ⟨G, j, none⟩ = (mcs lp s (kindOf uns f tbc sup) i)[j]?)
def ZZP (w : World) (uns f fmt tbc : Int) (sup : Bool) (e : Ending) (w' : World) : Prop :=
  ∃ a n c, e = .returned (.tuple #[.bool (resB uns f fmt), .slice a n c]) ∧ OUTP w' uns f fmt tbc sup a n ∧ n ≤ 1 ∧ Below w.heap.size w w'
/-- Between the mark and the log's end. -/
structure AFT (w w5 : World) (p mu ms : Nat) (uns f fmt tbc : Int) (sup : Bool) (a : Option Addr) (n c : Nat) : Prop where
  o : OUTP w5 uns f fmt tbc sup a n
  n1 : n ≤ 1
  m : w5.cell? ⟨mu, 0, none⟩ = some (il 0)
  mf : w5.frozen? ⟨mu, 0, none⟩ = false
  s : w5.cell? ⟨ms, 0, none⟩ = some (.slice a n c)
  d : w5.cell? ⟨p, 54, none⟩ = some (.func (.func 26) #[] #[.pointer (some ⟨mu, 0, none⟩), .pointer (some ⟨ms, 0, none⟩)])
  b : Below w.heap.size w w5

theorem aft {w W4 w5 : World} {mu he ms lv : Nat} {env ct : ByteArray} {uns f fmt tbc : Int} {mask : Nat} {sup : Bool} {e : Ending} (h : PM W4 w.heap.size lv mu he ms env ct ⟨#[]⟩ ⟨#[]⟩ uns mask fmt tbc sup) (hb : Below w.heap.size w W4) (hx : w.heap.size ≤ mu ∧ w.heap.size ≤ he ∧ w.heap.size ≤ ms)
    (q : MSP w.heap.size lv mu he ms uns f fmt tbc sup W4 e w5) : ∃ a n c, AFT w w5 w.heap.size mu ms uns f fmt tbc sup a n c := by
  obtain ⟨rfl, q1, q2⟩ := q
  have l2 := World.block_lt_of_cell? _ _ h.lg.m
  have l4 := World.block_lt_of_cell? _ _ h.lg.s
  cases hr : resB uns f fmt
  · have b2 := q2 hr
    exact ⟨none, 0, 0, ⟨⟨fun _ => rfl, fun e => (by rw [hr] at e; cases e)⟩, by omega, kept b2 h.lg.m, (b2.frozen l2).trans h.lg.mf, kept b2 h.lg.s, kept b2 h.c54, hb.trans (b2.mono hb.size)⟩⟩
  · obtain ⟨-, ⟨lp, s, i, ho⟩, hk, hc, hbb⟩ := q1 hr
    obtain ⟨G, cap, hs, hcs⟩ := ho.s
    exact ⟨_, _, _, ⟨⟨fun e => (by rw [hr] at e; cases e), fun _ => ⟨rfl, G, lp, s, i, rfl, hcs⟩⟩, Nat.le_refl _, ho.m, ho.mf, hs, (hc 54 (by omega)).trans h.c54, hb.trans (hbb w.heap.size (Nat.le_refl _) hx.1 hx.2.1 hx.2.2 hb.size)⟩⟩

theorem outFar {w : World} {uns f fmt tbc : Int} {sup : Bool} {a : Option Addr} {n mu : Nat} (h : OUTP w uns f fmt tbc sup a n) (hm : w.cell? ⟨mu, 0, none⟩ = some (il 0)) (x y : Int) : OUTP ((w.setCell ⟨mu, 0, none⟩ (il x)).setCell ⟨mu, 0, none⟩ (il y)) uns f fmt tbc sup a n := by
  refine ⟨h.1, fun hr => ?_⟩
  obtain ⟨e1, G, lp, s, i, e2, hc⟩ := h.2 hr
  have hG : G ≠ mu := by
    intro e; subst e
    have := (hc 0 (by omega)).symm.trans hm
    simp at this
  exact ⟨e1, G, lp, s, i, e2, fun j hj => (World.cell?_setCell_other _ _ _ _ (by simp [Ne.symm hG])).trans ((World.cell?_setCell_other _ _ _ _ (by simp [Ne.symm hG])).trans (hc j hj))⟩

set_option maxRecDepth 100000 in
set_option maxHeartbeats 8000000 in
theorem zzMark (uns f fmt tbc : Int) (mask o ln : Nat) (env ct : ByteArray) (sup : Bool) (w : World) (ho : o ≤ ct.size) (hln : ln ≤ ct.size) (hs : ct.size ≤ 1048576) (hm : mask < 18446744073709551616) (hlo : o + ln ≤ ct.size) (hT : Lib.Utf8Tabs 0 1 w) (l1 : 1 < w.heap.size) :
    Calls Tryf.prog 7 #[.int .u64 f, .int .u64 uns, .int .u64 mask, .string env, .int .u8 fmt, .bool sup, .int .i32 tbc, .string ct, il o, il ln] w (ZZP w uns f fmt tbc sup) := by
  have HT := Lib.hid hT
  clear hT
  go_enter Tryf.func7, Tryf.ntmps7
  go_upto_region 8 with (go_at_call 9; refine (newP fmt w).mono ?_; rintro e w1 ⟨rfl, hN, hB1⟩; have zf := hN.fr; have z23 := hN.c23; have z25 := hN.c25; have z18 := hN.c18; have z341 := hN.c341; have z329 := hN.c329; have z60 := hN.c60)
  obtain ⟨W2, hW2⟩ : ∃ W, W = ((((((w1.setCell ⟨w.heap.size, 23, none⟩ (.int .u64 uns)).setCell ⟨w.heap.size, 25, none⟩ (.int .u64 (mask : Int))).setCell ⟨w.heap.size, 18, none⟩ (.string env)).setCell ⟨w.heap.size, 341, none⟩ (.bool sup)).setCell ⟨w.heap.size, 329, none⟩ (.int .i32 tbc)).setCell ⟨w.heap.size, 60, none⟩ (.string ct)) := ⟨_, rfl⟩
  have B2 : Below w.heap.size w W2 := by rw [hW2]; repeat (first | with_reducible exact hB1 | (with_reducible refine Below.setCell ?_ (by simp) _))
  have hne : w.heap.size ≠ w.heap.size + 1 ∧ w.heap.size ≠ w.heap.size + 1 + 1 + 1 + 1 ∧ w.heap.size ≠ w.heap.size + 1 + 1 + 1 + 1 + 1 ∧ w.heap.size ≠ w.heap.size + 1 + 1 + 1 := by omega
  have L2 : LG W2 (w.heap.size + 1) (w.heap.size + 1 + 1 + 1 + 1) (w.heap.size + 1 + 1 + 1 + 1 + 1) (w.heap.size + 1 + 1 + 1) 0 := by
    rw [hW2]
    have hl := hN.lg
    repeat (first | with_reducible exact hl | (with_reducible refine lgFar ?_ _ _ hne))
  have F2 : ∀ i, W2.frozen? ⟨w.heap.size, i, none⟩ = false := fun i => by rw [hW2]; simp [zf i]
  have x18 : W2.cell? ⟨w.heap.size, 18, none⟩ = some (.string env) := by rw [hW2]; have hh := hN.c18; repeat (first | with_reducible exact hh | (with_reducible refine kSetO ?_ (by decide)) | (with_reducible refine kSetS _ (u := (.string ⟨#[]⟩)) ?_))
  have x23 : W2.cell? ⟨w.heap.size, 23, none⟩ = some (.int .u64 uns) := by rw [hW2]; have hh := hN.c23; repeat (first | with_reducible exact hh | (with_reducible refine kSetO ?_ (by decide)) | (with_reducible refine kSetS _ (u := (.int .u64 0)) ?_))
  have x25 : W2.cell? ⟨w.heap.size, 25, none⟩ = some (.int .u64 (mask : Int)) := by rw [hW2]; have hh := hN.c25; repeat (first | with_reducible exact hh | (with_reducible refine kSetO ?_ (by decide)) | (with_reducible refine kSetS _ (u := (.int .u64 0)) ?_))
  have x36 : W2.cell? ⟨w.heap.size, 36, none⟩ = some (.int .u8 fmt) := by rw [hW2]; have hh := hN.c36; repeat (first | with_reducible exact hh | (with_reducible refine kSetO ?_ (by decide)) | (with_reducible refine kSetS _ (u := (.int .u8 fmt)) ?_))
  have x51 : W2.cell? ⟨w.heap.size, 51, none⟩ = some (.func (.func 21) #[] #[.pointer (some ⟨(w.heap.size + 1), 0, none⟩), .pointer (some ⟨(w.heap.size + 1 + 1 + 1 + 1), 0, none⟩), .pointer (some ⟨(w.heap.size + 1 + 1 + 1 + 1 + 1), 0, none⟩), .pointer (some ⟨(w.heap.size + 1 + 1 + 1), 0, none⟩)]) := by rw [hW2]; have hh := hN.c51; repeat (first | with_reducible exact hh | (with_reducible refine kSetO ?_ (by decide)) | (with_reducible refine kSetS _ (u := (.func (.func 21) #[] #[.pointer (some ⟨(w.heap.size + 1), 0, none⟩), .pointer (some ⟨(w.heap.size + 1 + 1 + 1 + 1), 0, none⟩), .pointer (some ⟨(w.heap.size + 1 + 1 + 1 + 1 + 1), 0, none⟩), .pointer (some ⟨(w.heap.size + 1 + 1 + 1), 0, none⟩)])) ?_))
  have x52 : W2.cell? ⟨w.heap.size, 52, none⟩ = some (.func (.func 24) #[] #[.pointer (some ⟨(w.heap.size + 1 + 1 + 1 + 1), 0, none⟩), .pointer (some ⟨(w.heap.size + 1 + 1 + 1 + 1 + 1), 0, none⟩)]) := by rw [hW2]; have hh := hN.c52; repeat (first | with_reducible exact hh | (with_reducible refine kSetO ?_ (by decide)) | (with_reducible refine kSetS _ (u := (.func (.func 24) #[] #[.pointer (some ⟨(w.heap.size + 1 + 1 + 1 + 1), 0, none⟩), .pointer (some ⟨(w.heap.size + 1 + 1 + 1 + 1 + 1), 0, none⟩)])) ?_))
  have x53 : W2.cell? ⟨w.heap.size, 53, none⟩ = some (.func (.func 25) #[] #[.pointer (some ⟨(w.heap.size + 1 + 1 + 1 + 1), 0, none⟩), .pointer (some ⟨(w.heap.size + 1 + 1 + 1), 0, none⟩)]) := by rw [hW2]; have hh := hN.c53; repeat (first | with_reducible exact hh | (with_reducible refine kSetO ?_ (by decide)) | (with_reducible refine kSetS _ (u := (.func (.func 25) #[] #[.pointer (some ⟨(w.heap.size + 1 + 1 + 1 + 1), 0, none⟩), .pointer (some ⟨(w.heap.size + 1 + 1 + 1), 0, none⟩)])) ?_))
  have x54 : W2.cell? ⟨w.heap.size, 54, none⟩ = some (.func (.func 26) #[] #[.pointer (some ⟨(w.heap.size + 1 + 1 + 1 + 1), 0, none⟩), .pointer (some ⟨(w.heap.size + 1 + 1 + 1), 0, none⟩)]) := by rw [hW2]; have hh := hN.c54; repeat (first | with_reducible exact hh | (with_reducible refine kSetO ?_ (by decide)) | (with_reducible refine kSetS _ (u := (.func (.func 26) #[] #[.pointer (some ⟨(w.heap.size + 1 + 1 + 1 + 1), 0, none⟩), .pointer (some ⟨(w.heap.size + 1 + 1 + 1), 0, none⟩)])) ?_))
  have x55 : W2.cell? ⟨w.heap.size, 55, none⟩ = some (.int .i8 3) := by rw [hW2]; have hh := hN.c55; repeat (first | with_reducible exact hh | (with_reducible refine kSetO ?_ (by decide)) | (with_reducible refine kSetS _ (u := (.int .i8 3)) ?_))
  have x56 : W2.cell? ⟨w.heap.size, 56, none⟩ = some (.map none) := by rw [hW2]; have hh := hN.c56; repeat (first | with_reducible exact hh | (with_reducible refine kSetO ?_ (by decide)) | (with_reducible refine kSetS _ (u := (.map none)) ?_))
  have x57 : W2.cell? ⟨w.heap.size, 57, none⟩ = some (.string ⟨#[]⟩) := by rw [hW2]; have hh := hN.c57; repeat (first | with_reducible exact hh | (with_reducible refine kSetO ?_ (by decide)) | (with_reducible refine kSetS _ (u := (.string ⟨#[]⟩)) ?_))
  have x58 : W2.cell? ⟨w.heap.size, 58, none⟩ = some (.string ⟨#[]⟩) := by rw [hW2]; have hh := hN.c58; repeat (first | with_reducible exact hh | (with_reducible refine kSetO ?_ (by decide)) | (with_reducible refine kSetS _ (u := (.string ⟨#[]⟩)) ?_))
  have x60 : W2.cell? ⟨w.heap.size, 60, none⟩ = some (.string ct) := by rw [hW2]; have hh := hN.c60; repeat (first | with_reducible exact hh | (with_reducible refine kSetO ?_ (by decide)) | (with_reducible refine kSetS _ (u := (.string ⟨#[]⟩)) ?_))
  have x67 : W2.cell? ⟨w.heap.size, 67, none⟩ = some (.string ⟨#[]⟩) := by rw [hW2]; have hh := hN.c67; repeat (first | with_reducible exact hh | (with_reducible refine kSetO ?_ (by decide)) | (with_reducible refine kSetS _ (u := (.string ⟨#[]⟩)) ?_))
  have x68 : W2.cell? ⟨w.heap.size, 68, none⟩ = some (.string ⟨#[]⟩) := by rw [hW2]; have hh := hN.c68; repeat (first | with_reducible exact hh | (with_reducible refine kSetO ?_ (by decide)) | (with_reducible refine kSetS _ (u := (.string ⟨#[]⟩)) ?_))
  have x69 : W2.cell? ⟨w.heap.size, 69, none⟩ = some (.string ⟨#[]⟩) := by rw [hW2]; have hh := hN.c69; repeat (first | with_reducible exact hh | (with_reducible refine kSetO ?_ (by decide)) | (with_reducible refine kSetS _ (u := (.string ⟨#[]⟩)) ?_))
  have x70 : W2.cell? ⟨w.heap.size, 70, none⟩ = some (il 0) := by rw [hW2]; have hh := hN.c70; repeat (first | with_reducible exact hh | (with_reducible refine kSetO ?_ (by decide)) | (with_reducible refine kSetS _ (u := (il 0)) ?_))
  have x71 : W2.cell? ⟨w.heap.size, 71, none⟩ = some (il 0) := by rw [hW2]; have hh := hN.c71; repeat (first | with_reducible exact hh | (with_reducible refine kSetO ?_ (by decide)) | (with_reducible refine kSetS _ (u := (il 0)) ?_))
  have x72 : W2.cell? ⟨w.heap.size, 72, none⟩ = some (il 0) := by rw [hW2]; have hh := hN.c72; repeat (first | with_reducible exact hh | (with_reducible refine kSetO ?_ (by decide)) | (with_reducible refine kSetS _ (u := (il 0)) ?_))
  have x73 : W2.cell? ⟨w.heap.size, 73, none⟩ = some (il 0) := by rw [hW2]; have hh := hN.c73; repeat (first | with_reducible exact hh | (with_reducible refine kSetO ?_ (by decide)) | (with_reducible refine kSetS _ (u := (il 0)) ?_))
  have x74 : W2.cell? ⟨w.heap.size, 74, none⟩ = some (.bool true) := by rw [hW2]; have hh := hN.c74; repeat (first | with_reducible exact hh | (with_reducible refine kSetO ?_ (by decide)) | (with_reducible refine kSetS _ (u := (.bool true)) ?_))
  have x75 : W2.cell? ⟨w.heap.size, 75, none⟩ = some (.bool false) := by rw [hW2]; have hh := hN.c75; repeat (first | with_reducible exact hh | (with_reducible refine kSetO ?_ (by decide)) | (with_reducible refine kSetS _ (u := (.bool false)) ?_))
  have x76 : W2.cell? ⟨w.heap.size, 76, none⟩ = some (.bool true) := by rw [hW2]; have hh := hN.c76; repeat (first | with_reducible exact hh | (with_reducible refine kSetO ?_ (by decide)) | (with_reducible refine kSetS _ (u := (.bool true)) ?_))
  have x329 : W2.cell? ⟨w.heap.size, 329, none⟩ = some (.int .i32 tbc) := by rw [hW2]; have hh := hN.c329; repeat (first | with_reducible exact hh | (with_reducible refine kSetO ?_ (by decide)) | (with_reducible refine kSetS _ (u := (.int .i32 0)) ?_))
  have x341 : W2.cell? ⟨w.heap.size, 341, none⟩ = some (.bool sup) := by rw [hW2]; have hh := hN.c341; repeat (first | with_reducible exact hh | (with_reducible refine kSetO ?_ (by decide)) | (with_reducible refine kSetS _ (u := (.bool false)) ?_))
  rw [← hW2]
  clear hW2 z23 z25 z18 z341 z329 z60 zf
  have HF2 := Lib.hid F2
  have HL2 := Lib.hid L2
  have HB2 := Lib.hid B2
  have HTK := Lib.hid (track w.heap.size ct ⟨#[]⟩ ⟨#[]⟩ W2 x60 x57 x58)
  have lp2 : w.heap.size < W2.heap.size := World.block_lt_of_cell? _ _ x60
  clear F2 L2 B2 hB1 hN
  go_upto_region 9 with (go_at_call 10; refine HTK.out.mono ?_; rintro e w3 ⟨rfl, hb3⟩; have zf := (fun i => (hb3.frozen (p := ⟨w.heap.size, i, none⟩) lp2).trans (HF2.out i) : ∀ i, w3.frozen? ⟨w.heap.size, i, none⟩ = false); have t67 := kept hb3 x67; have t68 := kept hb3 x68; have t69 := kept hb3 x69; have t70 := kept hb3 x70; have t71 := kept hb3 x71; have t72 := kept hb3 x72; have t73 := kept hb3 x73; have t74 := kept hb3 x74; have t75 := kept hb3 x75; have t76 := kept hb3 x76)
  obtain ⟨W4, hW4⟩ : ∃ W, W = ((((((((((w3.setCell ⟨w.heap.size, 67, none⟩ (.string ct)).setCell ⟨w.heap.size, 68, none⟩ (.string ⟨#[]⟩)).setCell ⟨w.heap.size, 69, none⟩ (.string ⟨#[]⟩)).setCell ⟨w.heap.size, 70, none⟩ (il 0)).setCell ⟨w.heap.size, 71, none⟩ (il 0)).setCell ⟨w.heap.size, 72, none⟩ (il 0)).setCell ⟨w.heap.size, 73, none⟩ (il 0)).setCell ⟨w.heap.size, 74, none⟩ (.bool true)).setCell ⟨w.heap.size, 75, none⟩ (.bool false)).setCell ⟨w.heap.size, 76, none⟩ (.bool true)) := ⟨_, rfl⟩
  have B34 : Below w.heap.size W2 w3 := hb3.mono (Nat.le_of_lt lp2)
  have B4 : Below w.heap.size W2 W4 := by rw [hW4]; repeat (first | with_reducible exact B34 | (with_reducible refine Below.setCell ?_ (by simp) _))
  have L4 : LG W4 (w.heap.size + 1) (w.heap.size + 1 + 1 + 1 + 1) (w.heap.size + 1 + 1 + 1 + 1 + 1) (w.heap.size + 1 + 1 + 1) 0 := by
    rw [hW4]
    have l3 : LG w3 (w.heap.size + 1) (w.heap.size + 1 + 1 + 1 + 1) (w.heap.size + 1 + 1 + 1 + 1 + 1) (w.heap.size + 1 + 1 + 1) 0 := HL2.out.below hb3 (World.block_lt_of_cell? _ _ HL2.out.l) (World.block_lt_of_cell? _ _ HL2.out.m) (World.block_lt_of_cell? _ _ HL2.out.h.choose_spec) (World.block_lt_of_cell? _ _ HL2.out.s)
    repeat (first | with_reducible exact l3 | (with_reducible refine lgFar ?_ _ _ hne))
  have F4 : ∀ i, W4.frozen? ⟨w.heap.size, i, none⟩ = false := fun i => by rw [hW4]; simp [zf i]
  have y18 : W4.cell? ⟨w.heap.size, 18, none⟩ = some (.string env) := by rw [hW4]; have hh := kept hb3 x18; repeat (first | with_reducible exact hh | (with_reducible refine kSetO ?_ (by decide)) | (with_reducible refine kSetS _ (u := (.string env)) ?_))
  have y23 : W4.cell? ⟨w.heap.size, 23, none⟩ = some (.int .u64 uns) := by rw [hW4]; have hh := kept hb3 x23; repeat (first | with_reducible exact hh | (with_reducible refine kSetO ?_ (by decide)) | (with_reducible refine kSetS _ (u := (.int .u64 uns)) ?_))
  have y25 : W4.cell? ⟨w.heap.size, 25, none⟩ = some (.int .u64 (mask : Int)) := by rw [hW4]; have hh := kept hb3 x25; repeat (first | with_reducible exact hh | (with_reducible refine kSetO ?_ (by decide)) | (with_reducible refine kSetS _ (u := (.int .u64 (mask : Int))) ?_))
  have y36 : W4.cell? ⟨w.heap.size, 36, none⟩ = some (.int .u8 fmt) := by rw [hW4]; have hh := kept hb3 x36; repeat (first | with_reducible exact hh | (with_reducible refine kSetO ?_ (by decide)) | (with_reducible refine kSetS _ (u := (.int .u8 fmt)) ?_))
  have y51 : W4.cell? ⟨w.heap.size, 51, none⟩ = some (.func (.func 21) #[] #[.pointer (some ⟨(w.heap.size + 1), 0, none⟩), .pointer (some ⟨(w.heap.size + 1 + 1 + 1 + 1), 0, none⟩), .pointer (some ⟨(w.heap.size + 1 + 1 + 1 + 1 + 1), 0, none⟩), .pointer (some ⟨(w.heap.size + 1 + 1 + 1), 0, none⟩)]) := by rw [hW4]; have hh := kept hb3 x51; repeat (first | with_reducible exact hh | (with_reducible refine kSetO ?_ (by decide)) | (with_reducible refine kSetS _ (u := (.func (.func 21) #[] #[.pointer (some ⟨(w.heap.size + 1), 0, none⟩), .pointer (some ⟨(w.heap.size + 1 + 1 + 1 + 1), 0, none⟩), .pointer (some ⟨(w.heap.size + 1 + 1 + 1 + 1 + 1), 0, none⟩), .pointer (some ⟨(w.heap.size + 1 + 1 + 1), 0, none⟩)])) ?_))
  have y52 : W4.cell? ⟨w.heap.size, 52, none⟩ = some (.func (.func 24) #[] #[.pointer (some ⟨(w.heap.size + 1 + 1 + 1 + 1), 0, none⟩), .pointer (some ⟨(w.heap.size + 1 + 1 + 1 + 1 + 1), 0, none⟩)]) := by rw [hW4]; have hh := kept hb3 x52; repeat (first | with_reducible exact hh | (with_reducible refine kSetO ?_ (by decide)) | (with_reducible refine kSetS _ (u := (.func (.func 24) #[] #[.pointer (some ⟨(w.heap.size + 1 + 1 + 1 + 1), 0, none⟩), .pointer (some ⟨(w.heap.size + 1 + 1 + 1 + 1 + 1), 0, none⟩)])) ?_))
  have y53 : W4.cell? ⟨w.heap.size, 53, none⟩ = some (.func (.func 25) #[] #[.pointer (some ⟨(w.heap.size + 1 + 1 + 1 + 1), 0, none⟩), .pointer (some ⟨(w.heap.size + 1 + 1 + 1), 0, none⟩)]) := by rw [hW4]; have hh := kept hb3 x53; repeat (first | with_reducible exact hh | (with_reducible refine kSetO ?_ (by decide)) | (with_reducible refine kSetS _ (u := (.func (.func 25) #[] #[.pointer (some ⟨(w.heap.size + 1 + 1 + 1 + 1), 0, none⟩), .pointer (some ⟨(w.heap.size + 1 + 1 + 1), 0, none⟩)])) ?_))
  have y54 : W4.cell? ⟨w.heap.size, 54, none⟩ = some (.func (.func 26) #[] #[.pointer (some ⟨(w.heap.size + 1 + 1 + 1 + 1), 0, none⟩), .pointer (some ⟨(w.heap.size + 1 + 1 + 1), 0, none⟩)]) := by rw [hW4]; have hh := kept hb3 x54; repeat (first | with_reducible exact hh | (with_reducible refine kSetO ?_ (by decide)) | (with_reducible refine kSetS _ (u := (.func (.func 26) #[] #[.pointer (some ⟨(w.heap.size + 1 + 1 + 1 + 1), 0, none⟩), .pointer (some ⟨(w.heap.size + 1 + 1 + 1), 0, none⟩)])) ?_))
  have y55 : W4.cell? ⟨w.heap.size, 55, none⟩ = some (.int .i8 3) := by rw [hW4]; have hh := kept hb3 x55; repeat (first | with_reducible exact hh | (with_reducible refine kSetO ?_ (by decide)) | (with_reducible refine kSetS _ (u := (.int .i8 3)) ?_))
  have y56 : W4.cell? ⟨w.heap.size, 56, none⟩ = some (.map none) := by rw [hW4]; have hh := kept hb3 x56; repeat (first | with_reducible exact hh | (with_reducible refine kSetO ?_ (by decide)) | (with_reducible refine kSetS _ (u := (.map none)) ?_))
  have y57 : W4.cell? ⟨w.heap.size, 57, none⟩ = some (.string ⟨#[]⟩) := by rw [hW4]; have hh := kept hb3 x57; repeat (first | with_reducible exact hh | (with_reducible refine kSetO ?_ (by decide)) | (with_reducible refine kSetS _ (u := (.string ⟨#[]⟩)) ?_))
  have y58 : W4.cell? ⟨w.heap.size, 58, none⟩ = some (.string ⟨#[]⟩) := by rw [hW4]; have hh := kept hb3 x58; repeat (first | with_reducible exact hh | (with_reducible refine kSetO ?_ (by decide)) | (with_reducible refine kSetS _ (u := (.string ⟨#[]⟩)) ?_))
  have y60 : W4.cell? ⟨w.heap.size, 60, none⟩ = some (.string ct) := by rw [hW4]; have hh := kept hb3 x60; repeat (first | with_reducible exact hh | (with_reducible refine kSetO ?_ (by decide)) | (with_reducible refine kSetS _ (u := (.string ct)) ?_))
  have y67 : W4.cell? ⟨w.heap.size, 67, none⟩ = some (.string ct) := by rw [hW4]; have hh := kept hb3 x67; repeat (first | with_reducible exact hh | (with_reducible refine kSetO ?_ (by decide)) | (with_reducible refine kSetS _ (u := (.string ⟨#[]⟩)) ?_))
  have y68 : W4.cell? ⟨w.heap.size, 68, none⟩ = some (.string ⟨#[]⟩) := by rw [hW4]; have hh := kept hb3 x68; repeat (first | with_reducible exact hh | (with_reducible refine kSetO ?_ (by decide)) | (with_reducible refine kSetS _ (u := (.string ⟨#[]⟩)) ?_))
  have y69 : W4.cell? ⟨w.heap.size, 69, none⟩ = some (.string ⟨#[]⟩) := by rw [hW4]; have hh := kept hb3 x69; repeat (first | with_reducible exact hh | (with_reducible refine kSetO ?_ (by decide)) | (with_reducible refine kSetS _ (u := (.string ⟨#[]⟩)) ?_))
  have y70 : W4.cell? ⟨w.heap.size, 70, none⟩ = some (il 0) := by rw [hW4]; have hh := kept hb3 x70; repeat (first | with_reducible exact hh | (with_reducible refine kSetO ?_ (by decide)) | (with_reducible refine kSetS _ (u := (il 0)) ?_))
  have y71 : W4.cell? ⟨w.heap.size, 71, none⟩ = some (il 0) := by rw [hW4]; have hh := kept hb3 x71; repeat (first | with_reducible exact hh | (with_reducible refine kSetO ?_ (by decide)) | (with_reducible refine kSetS _ (u := (il 0)) ?_))
  have y72 : W4.cell? ⟨w.heap.size, 72, none⟩ = some (il 0) := by rw [hW4]; have hh := kept hb3 x72; repeat (first | with_reducible exact hh | (with_reducible refine kSetO ?_ (by decide)) | (with_reducible refine kSetS _ (u := (il 0)) ?_))
  have y73 : W4.cell? ⟨w.heap.size, 73, none⟩ = some (il 0) := by rw [hW4]; have hh := kept hb3 x73; repeat (first | with_reducible exact hh | (with_reducible refine kSetO ?_ (by decide)) | (with_reducible refine kSetS _ (u := (il 0)) ?_))
  have y74 : W4.cell? ⟨w.heap.size, 74, none⟩ = some (.bool true) := by rw [hW4]; have hh := kept hb3 x74; repeat (first | with_reducible exact hh | (with_reducible refine kSetO ?_ (by decide)) | (with_reducible refine kSetS _ (u := (.bool true)) ?_))
  have y75 : W4.cell? ⟨w.heap.size, 75, none⟩ = some (.bool false) := by rw [hW4]; have hh := kept hb3 x75; repeat (first | with_reducible exact hh | (with_reducible refine kSetO ?_ (by decide)) | (with_reducible refine kSetS _ (u := (.bool false)) ?_))
  have y76 : W4.cell? ⟨w.heap.size, 76, none⟩ = some (.bool true) := by rw [hW4]; have hh := kept hb3 x76; repeat (first | with_reducible exact hh | (with_reducible refine kSetO ?_ (by decide)) | (with_reducible refine kSetS _ (u := (.bool true)) ?_))
  have y329 : W4.cell? ⟨w.heap.size, 329, none⟩ = some (.int .i32 tbc) := by rw [hW4]; have hh := kept hb3 x329; repeat (first | with_reducible exact hh | (with_reducible refine kSetO ?_ (by decide)) | (with_reducible refine kSetS _ (u := (.int .i32 tbc)) ?_))
  have y341 : W4.cell? ⟨w.heap.size, 341, none⟩ = some (.bool sup) := by rw [hW4]; have hh := kept hb3 x341; repeat (first | with_reducible exact hh | (with_reducible refine kSetO ?_ (by decide)) | (with_reducible refine kSetS _ (u := (.bool sup)) ?_))
  rw [← hW4]
  have B5 : Below w.heap.size w W4 := HB2.out.trans B4
  have HP : PM W4 w.heap.size (w.heap.size + 1) (w.heap.size + 1 + 1 + 1 + 1) (w.heap.size + 1 + 1 + 1 + 1 + 1) (w.heap.size + 1 + 1 + 1) env ct ⟨#[]⟩ ⟨#[]⟩ uns mask fmt tbc sup := ⟨y18, y23, y25, y36, y51, y52, y53, y54, y55, y56, y60, y329, y341, ⟨y67, y68, y69, y70, y71, y72, y73, y74, y75, y76, F4⟩, L4, tabsX (X := []) (by simp) (by simp) HT.out (KX.ofBelow B5)⟩
  have HM := Lib.hid (mark w.heap.size (w.heap.size + 1) (w.heap.size + 1 + 1 + 1 + 1) (w.heap.size + 1 + 1 + 1 + 1 + 1) (w.heap.size + 1 + 1 + 1) o ln env ct ⟨#[]⟩ ⟨#[]⟩ uns mask f fmt tbc sup ⟨by omega, by omega, by omega, by omega, by omega, by omega⟩ W4 ho hln hs (by omega) (by omega) hne HP hm hlo)
  have HA := Lib.hid (fun (w5 : World) (e : Ending) (q : MSP w.heap.size (w.heap.size + 1) (w.heap.size + 1 + 1 + 1 + 1) (w.heap.size + 1 + 1 + 1 + 1 + 1) (w.heap.size + 1 + 1 + 1) uns f fmt tbc sup W4 e w5) => aft HP B5 ⟨by omega, by omega, by omega⟩ q)
  clear hW4 t67 t68 t69 t70 t71 t72 t73 t74 t75 t76 zf x54 x18 x23 x25 x36 x51 x52 x53 x55 x56 x57 x58 x60 x67 x68 x69 x70 x71 x72 x73 x74 x75 x76 x329 x341 y18 y23 y25 y36 y51 y52 y53 y54 y55 y56 y57 y58 y60 y67 y68 y69 y70 y71 y72 y73 y74 y75 y76 y329 y341 B34 B4 B5 L4 F4 HP hb3 HTK HF2 HL2 HB2 HT
  go_wp2_with (first
    | (go_at_call 11; refine HM.out.mono ?_; rintro e w5 hq; obtain ⟨a, n, c, af⟩ := HA.out w5 e hq; obtain rfl := hq.1; have HAF := Lib.hid af; have c54 := af.d; clear af hq)
    | (go_at_call 26; refine (doneF (w.heap.size + 1 + 1 + 1 + 1) (w.heap.size + 1 + 1 + 1) a n c HAF.out.n1 _ (by omega) HAF.out.m HAF.out.mf HAF.out.s).mono ?_; rintro e w6 ⟨rfl, rfl⟩))
  go_ret2
  exact ⟨a, n, c, rfl, outFar HAF.out.o HAF.out.m 1 0, HAF.out.n1, (HAF.out.b.setCell (by simp; omega) _).setCell (by simp; omega) _⟩
end MF
end Go.Proofs.YtkkkamniccgblaaFmt
