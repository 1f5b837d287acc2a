/- Proved here: what AddError and AddID leave. -/
import Derived.Test.YtkkkamniccgblaaFmtMFH
import Derived.WalkKit
import Derived.WalkSpells
import Derived.WalkLawsBesides
import Derived.Lib.Hide
import Derived.Lib.SliceRun
import Derived.Deep.RegionWith
import Derived.BigRegion
import Derived.BigQuiet
import Derived.OwnWalk
import Derived.Laws.OwnMore
import Derived.Deep.Cut
import Derived.Carry
import Derived.IntWalk
import Derived.StillTailTactics
import Derived.Deep.RegionHeld3
namespace Go.Proofs.YtkkkamniccgblaaFmt
open Go.RowKit
set_option linter.unusedSimpArgs false
set_option linter.unusedVariables false

namespace MF
/-- The log's value. -/
abbrev lgv (lv mu he ms : Nat) : Array Value := #[.func (.func 21) #[] #[.pointer (some ⟨lv, 0, none⟩), .pointer (some ⟨mu, 0, none⟩), .pointer (some ⟨he, 0, none⟩), .pointer (some ⟨ms, 0, none⟩)], .func (.func 24) #[] #[.pointer (some ⟨mu, 0, none⟩), .pointer (some ⟨he, 0, none⟩)], .func (.func 25) #[] #[.pointer (some ⟨mu, 0, none⟩), .pointer (some ⟨ms, 0, none⟩)], .func (.func 26) #[] #[.pointer (some ⟨mu, 0, none⟩), .pointer (some ⟨ms, 0, none⟩)], .int .i8 3, .map none]
theorem lookNil (i : Int) (w : World) : (Instr.lookup 80 (.map none) (.int .u8 i) true).run Tryf.prog w = .ok (.tuple #[.int .i8 0, .bool false]) w := by kernel_rfl
set_option maxRecDepth 100000 in
theorem allow (i k : Int) (w : World) : Calls Tryf.prog 29 #[.map none, .int .u8 i, .int .u8 k] w fun e w' => e = .returned (.tuple #[.int .u8 k, .bool true]) ∧ w' = w := by
  have hl := lookNil i
  go_enter Tryf.func29, Tryf.ntmps29
  go_wp2_with fail
  all_goals first | (go_ret2; exact ⟨rfl, rfl⟩) | (go_ret2; trace_state)
/-- What AddError and AddID leave. -/
def AEP (p lv mu he ms : Nat) (k : Int) (w : World) (e : Ending) (w' : World) : Prop :=
  e = .returned (.tuple #[]) ∧ (∃ lp s i, ONE w' lv mu he ms lp s k i) ∧ KX [p, mu, he, ms] w w' ∧ (∀ i, i < 67 ∨ 76 < i → w'.cell? ⟨p, i, none⟩ = w.cell? ⟨p, i, none⟩) ∧ ∀ B, B ≤ p → B ≤ mu → B ≤ he → B ≤ ms → B ≤ w.heap.size → Below B w w'
theorem LG.kt {w w' : World} {p lv mu he ms : Nat} {m : Int} (h : LG w lv mu he ms m) (hk : KX [p] w w') (hp : p ≠ lv ∧ p ≠ mu ∧ p ≠ he ∧ p ≠ ms) : LG w' lv mu he ms m := by
  have kc : ∀ g v, g ≠ p → w.cell? ⟨g, 0, none⟩ = some v → w'.cell? ⟨g, 0, none⟩ = some v := fun g v hg hv => (World.cell?_of_block (hk.2 g (World.block_lt_of_cell? _ _ hv) (by simp [hg]))).trans hv
  have kf : ∀ g v, g ≠ p → w.cell? ⟨g, 0, none⟩ = some v → w'.frozen? ⟨g, 0, none⟩ = w.frozen? ⟨g, 0, none⟩ := fun g v hg hv => World.frozen?_of_block (hk.2 g (World.block_lt_of_cell? _ _ hv) (by simp [hg]))
  obtain ⟨a, b, c, d⟩ := hp
  obtain ⟨bb, hb⟩ := h.h
  exact ⟨kc _ _ a.symm h.l, kc _ _ b.symm h.m, (kf _ _ b.symm h.m).trans h.mf, ⟨bb, kc _ _ c.symm hb⟩, (kf _ _ c.symm hb).trans h.hf, kc _ _ d.symm h.s, (kf _ _ d.symm h.s).trans h.sf⟩
theorem KX.mono {X Y : List Nat} {w w' : World} (h : KX X w w') (hs : ∀ b, b ∈ X → b ∈ Y) : KX Y w w' := ⟨h.1, fun b hb hx => h.2 b hb fun q => hx (hs b q)⟩
theorem aepEnd {w W w8 w9 : World} {p lv mu he ms : Nat} {lq : Option Addr} {sq : ByteArray} {k iq : Int} (HB : Below w.heap.size w W) (hk : KT p W.drew w8) (m1 : ONE w9 lv mu he ms lq sq k iq) (m2 : KX [mu, he, ms] w8 w9) (m3 : ∀ B, B ≤ mu → B ≤ he → B ≤ ms → B ≤ w8.heap.size → Below B w8 w9) (lp : p < w.heap.size) (hpl : p ≠ lv ∧ p ≠ mu ∧ p ≠ he ∧ p ≠ ms) : AEP p lv mu he ms k w (.returned (.tuple #[])) w9 := by
  have s1 : w.heap.size ≤ W.heap.size := HB.size
  have s2 : W.heap.size ≤ w8.heap.size := hk.k.1
  refine ⟨rfl, ⟨_, _, _, m1⟩, ?_, ?_, ?_⟩
  · have e1 : KX [p, mu, he, ms] w W.drew := KX.drew (KX.ofBelow HB)
    exact (e1.trans (hk.k.mono (by simp))).trans (m2.mono (by simp))
  · intro i hi
    refine (World.cell?_of_block (w := w8) (a := ⟨p, i, none⟩) (m2.2 p (by omega) (by simp; omega))).trans ((hk.c i hi).trans ?_)
    exact HB.cell lp
  · intro B x0 x1 x2 x3 x4
    have b1 : Below B w W := HB.mono x4
    have b2 : Below B W.drew w8 := hk.b B x0 (by show B ≤ W.heap.size; omega)
    exact (b1.drew.trans b2).trans (m3 B x1 x2 x3 (by omega))
set_option maxRecDepth 100000 in
set_option maxHeartbeats 4000000 in
theorem addError (p o ln lv mu he ms : Nat) (D : DD lv mu he ms) (s a b x : ByteArray) (w : World) (ho : o ≤ s.size) (hln : ln ≤ s.size) (hs : s.size ≤ 1048576) (hT : Lib.Utf8Tabs 0 1 w) (hp0 : p ≠ 0) (hp1 : p ≠ 1)
    (hpl : p ≠ lv ∧ p ≠ mu ∧ p ≠ he ∧ p ≠ ms) (h : TK w p s a b 0 0 0 0 true false) (hL : LG w lv mu he ms 0) :
    Calls Tryf.prog 15 #[.agg (lgv lv mu he ms), .pointer (some ⟨p, 67, none⟩), .agg #[il o, il ln], .string x] w (AEP p lv mu he ms 0 w) := by
  have lp : p < w.heap.size := World.block_lt_of_cell? _ _ h.c0
  obtain ⟨W, hW⟩ : ∃ W, W = (w.alloc (.cells (lgv lv mu he ms) 82)).alloc (.cells #[il o, il ln] 56) := ⟨_, rfl⟩
  have HB : Below w.heap.size w W := by rw [hW]; exact ((Below.refl _ w).alloc (Nat.le_refl _) _).alloc (by simp) _
  have at0 : At W w.heap.size 82 (lgv lv mu he ms) := by rw [hW]; exact At.alloc (At.new w 82 _) _
  have at1 : At W (w.heap.size + 1) 56 #[il o, il ln] := by
    rw [hW]; have := At.new (w.alloc (.cells (lgv lv mu he ms) 82)) 56 #[il o, il ln]
    simpa using this
  have q0 : W.cell? ⟨w.heap.size, 0, none⟩ = some (.func (.func 21) #[] #[.pointer (some ⟨lv, 0, none⟩), .pointer (some ⟨mu, 0, none⟩), .pointer (some ⟨he, 0, none⟩), .pointer (some ⟨ms, 0, none⟩)]) := by rw [At.cell at0]; rfl
  have q1 : W.cell? ⟨w.heap.size + 1, 0, none⟩ = some (il o) := by rw [At.cell at1]; rfl
  have q2 : W.cell? ⟨w.heap.size + 1, 1, none⟩ = some (il ln) := by rw [At.cell at1]; rfl
  have HK2 := Lib.hid (fun (w8 w9 : World) (hk : KT p W.drew w8) (hk2 : KX [mu, he, ms] w8 w9) (g : Nat) (h0 : w.heap.size ≤ g) (hg : g < W.heap.size) (i : Nat) => (World.cell?_of_block (w := w8) (a := ⟨g, i, none⟩) (hk2.2 g (show g < w8.heap.size from Nat.lt_of_lt_of_le hg hk.k.1) (by
    have x2 := World.block_lt_of_cell? _ _ hL.m
    have x3 := World.block_lt_of_cell? _ _ hL.h.choose_spec
    have x4 := World.block_lt_of_cell? _ _ hL.s
    simp only at x2 x3 x4
    simp; omega)) : w9.cell? ⟨g, i, none⟩ = w8.cell? ⟨g, i, none⟩))
  have HF := Lib.hid (fun (w8 w9 : World) (hk : KT p W.drew w8) {lq : Option Addr} {sq : ByteArray} {iq : Int} (m1 : ONE w9 lv mu he ms lq sq 0 iq) (m2 : KX [mu, he, ms] w8 w9) (m3 : ∀ B, B ≤ mu → B ≤ he → B ≤ ms → B ≤ w8.heap.size → Below B w8 w9) => aepEnd HB hk m1 m2 m3 lp hpl)
  have HW := Lib.hid hW
  have HBh := Lib.hid HB
  have HTK := Lib.hid (h.below HB)
  have HLG := Lib.hid (hL.below HB (World.block_lt_of_cell? _ _ hL.l) (World.block_lt_of_cell? _ _ hL.m) (World.block_lt_of_cell? _ _ hL.h.choose_spec) (World.block_lt_of_cell? _ _ hL.s))
  have HTT := Lib.hid (tabsX (by simp) (by simp) hT (KX.ofBelow (X := []) HB))
  clear h hL hT hW HB at0 at1
  go_enter Tryf.func15, Tryf.ntmps15
  go_wp2_with fail
  change Code.wp _ _ _ _ ((w.alloc (.cells (lgv lv mu he ms) 82)).alloc (.cells #[il o, il ln] 56))
  rw [← HW.out]
  have HM := Lib.hid (msgData p o ln s a b x W.drew ho hln hs HTT.out hp0 hp1 ⟨HTK.out.c0, HTK.out.c1, HTK.out.c2, HTK.out.of, HTK.out.li, HTK.out.ls, HTK.out.le, HTK.out.hs, HTK.out.he, HTK.out.so, HTK.out.fr⟩)
  have HK1 := Lib.hid (fun (w8 : World) (hk : KT p W.drew w8) (g : Nat) (hg : g < W.heap.size) (hgp : g ≠ p) (i : Nat) => (World.cell?_of_block (w := W) (a := ⟨g, i, none⟩) (hk.k.2 g hg (by simp [hgp])) : w8.cell? ⟨g, i, none⟩ = W.cell? ⟨g, i, none⟩))
  have HLd := Lib.hid (show LG W.drew lv mu he ms 0 from ⟨HLG.out.l, HLG.out.m, HLG.out.mf, HLG.out.h, HLG.out.hf, HLG.out.s, HLG.out.sf⟩)
  have l0 : w.heap.size < W.heap.size := World.block_lt_of_cell? _ _ q0
  have l1 : w.heap.size + 1 < W.heap.size := World.block_lt_of_cell? _ _ q1
  go_region_held3 (fun w' => w'.cell? ⟨w.heap.size, 0, none⟩ = some (.func (.func 21) #[] #[.pointer (some ⟨lv, 0, none⟩), .pointer (some ⟨mu, 0, none⟩), .pointer (some ⟨he, 0, none⟩), .pointer (some ⟨ms, 0, none⟩)]) ∧ w'.cell? ⟨w.heap.size + 1, 0, none⟩ = some (il o) ∧ w'.cell? ⟨w.heap.size + 1, 1, none⟩ = some (il ln)) (repeat' (first | (refine And.intro ?_ ?_) | assumption | apply kDrew)) (first
    | (go_at_call 28; refine HM.out.mono ?_; rintro e w8 ⟨⟨l, rfl⟩, hk⟩; have r0 := (HK1.out w8 hk _ l0 (by omega) 0).trans q0; have r1 := (HK1.out w8 hk _ l1 (by omega) 0).trans q1; have r2 := (HK1.out w8 hk _ l1 (by omega) 1).trans q2)
    | (go_at_call 21; have g8 := LG.kt HLd.out hk.k hpl; have HA := addMsg lv mu he ms D l x 0 0 w8 g8; refine HA.mono ?_; intro e w9 hA; obtain ⟨rfl, m1, m2, m3⟩ := hA; have r4 := (HK2.out w8 w9 hk m2 _ (by omega) l0 0).trans r0; have r5 := (HK2.out w8 w9 hk m2 _ (by omega) l1 0).trans r1; have r6 := (HK2.out w8 w9 hk m2 _ (by omega) l1 1).trans r2))
  go_wp2_with fail
  go_end0
  exact HF.out w8 w9 hk m1 m2 m3
set_option maxRecDepth 100000 in
set_option maxHeartbeats 4000000 in
theorem addID (p o ln lv mu he ms : Nat) (i k : Int) (D : DD lv mu he ms) (s a b x : ByteArray) (w : World) (ho : o ≤ s.size) (hln : ln ≤ s.size) (hs : s.size ≤ 1048576) (hT : Lib.Utf8Tabs 0 1 w) (hp0 : p ≠ 0) (hp1 : p ≠ 1)
    (hpl : p ≠ lv ∧ p ≠ mu ∧ p ≠ he ∧ p ≠ ms) (h : TK w p s a b 0 0 0 0 true false) (hL : LG w lv mu he ms 0) :
    Calls Tryf.prog 20 #[.agg (lgv lv mu he ms), .int .u8 i, .int .u8 k, .pointer (some ⟨p, 67, none⟩), .agg #[il o, il ln], .string x] w (AEP p lv mu he ms k w) := by
  have lp : p < w.heap.size := World.block_lt_of_cell? _ _ h.c0
  obtain ⟨W, hW⟩ : ∃ W, W = (w.alloc (.cells (lgv lv mu he ms) 82)).alloc (.cells #[il o, il ln] 56) := ⟨_, rfl⟩
  have HB : Below w.heap.size w W := by rw [hW]; exact ((Below.refl _ w).alloc (Nat.le_refl _) _).alloc (by simp) _
  have at0 : At W w.heap.size 82 (lgv lv mu he ms) := by rw [hW]; exact At.alloc (At.new w 82 _) _
  have at1 : At W (w.heap.size + 1) 56 #[il o, il ln] := by
    rw [hW]; have := At.new (w.alloc (.cells (lgv lv mu he ms) 82)) 56 #[il o, il ln]
    simpa using this
  have q0 : W.cell? ⟨w.heap.size, 0, none⟩ = some (.func (.func 21) #[] #[.pointer (some ⟨lv, 0, none⟩), .pointer (some ⟨mu, 0, none⟩), .pointer (some ⟨he, 0, none⟩), .pointer (some ⟨ms, 0, none⟩)]) := by rw [At.cell at0]; rfl
  have q1 : W.cell? ⟨w.heap.size + 1, 0, none⟩ = some (il o) := by rw [At.cell at1]; rfl
  have q2 : W.cell? ⟨w.heap.size + 1, 1, none⟩ = some (il ln) := by rw [At.cell at1]; rfl
  have HK2 := Lib.hid (fun (w8 w9 : World) (hk : KT p W.drew w8) (hk2 : KX [mu, he, ms] w8 w9) (g : Nat) (h0 : w.heap.size ≤ g) (hg : g < W.heap.size) (i : Nat) => (World.cell?_of_block (w := w8) (a := ⟨g, i, none⟩) (hk2.2 g (show g < w8.heap.size from Nat.lt_of_lt_of_le hg hk.k.1) (by
    have x2 := World.block_lt_of_cell? _ _ hL.m
    have x3 := World.block_lt_of_cell? _ _ hL.h.choose_spec
    have x4 := World.block_lt_of_cell? _ _ hL.s
    simp only at x2 x3 x4
    simp; omega)) : w9.cell? ⟨g, i, none⟩ = w8.cell? ⟨g, i, none⟩))
  have q3 : W.cell? ⟨w.heap.size, 5, none⟩ = some (.map none) := by rw [At.cell at0]; rfl
  have HF := Lib.hid (fun (w8 w9 : World) (hk : KT p W.drew w8) {lq : Option Addr} {sq : ByteArray} {iq : Int} (m1 : ONE w9 lv mu he ms lq sq k iq) (m2 : KX [mu, he, ms] w8 w9) (m3 : ∀ B, B ≤ mu → B ≤ he → B ≤ ms → B ≤ w8.heap.size → Below B w8 w9) => aepEnd HB hk m1 m2 m3 lp hpl)
  have HW := Lib.hid hW
  have HBh := Lib.hid HB
  have HTK := Lib.hid (h.below HB)
  have HLG := Lib.hid (hL.below HB (World.block_lt_of_cell? _ _ hL.l) (World.block_lt_of_cell? _ _ hL.m) (World.block_lt_of_cell? _ _ hL.h.choose_spec) (World.block_lt_of_cell? _ _ hL.s))
  have HTT := Lib.hid (tabsX (by simp) (by simp) hT (KX.ofBelow (X := []) HB))
  clear h hL hT hW HB at0 at1
  go_enter Tryf.func20, Tryf.ntmps20
  rw [HW.out] at q3
  go_wp2_with (go_at_call 29; refine (allow _ _ _).mono ?_; rintro e w' ⟨rfl, rfl⟩)
  rw [← HW.out] at q3 ⊢
  have HM := Lib.hid (msgData p o ln s a b x W.drew ho hln hs HTT.out hp0 hp1 ⟨HTK.out.c0, HTK.out.c1, HTK.out.c2, HTK.out.of, HTK.out.li, HTK.out.ls, HTK.out.le, HTK.out.hs, HTK.out.he, HTK.out.so, HTK.out.fr⟩)
  have HK1 := Lib.hid (fun (w8 : World) (hk : KT p W.drew w8) (g : Nat) (hg : g < W.heap.size) (hgp : g ≠ p) (i : Nat) => (World.cell?_of_block (w := W) (a := ⟨g, i, none⟩) (hk.k.2 g hg (by simp [hgp])) : w8.cell? ⟨g, i, none⟩ = W.cell? ⟨g, i, none⟩))
  have HLd := Lib.hid (show LG W.drew lv mu he ms 0 from ⟨HLG.out.l, HLG.out.m, HLG.out.mf, HLG.out.h, HLG.out.hf, HLG.out.s, HLG.out.sf⟩)
  have l0 : w.heap.size < W.heap.size := World.block_lt_of_cell? _ _ q0
  have l1 : w.heap.size + 1 < W.heap.size := World.block_lt_of_cell? _ _ q1
  go_region_held3 (fun w' => w'.cell? ⟨w.heap.size, 0, none⟩ = some (.func (.func 21) #[] #[.pointer (some ⟨lv, 0, none⟩), .pointer (some ⟨mu, 0, none⟩), .pointer (some ⟨he, 0, none⟩), .pointer (some ⟨ms, 0, none⟩)]) ∧ w'.cell? ⟨w.heap.size + 1, 0, none⟩ = some (il o) ∧ w'.cell? ⟨w.heap.size + 1, 1, none⟩ = some (il ln)) (repeat' (first | (refine And.intro ?_ ?_) | assumption | apply kDrew)) (first
    | (go_at_call 28; refine HM.out.mono ?_; rintro e w8 ⟨⟨l, rfl⟩, hk⟩; have r0 := (HK1.out w8 hk _ l0 (by omega) 0).trans q0; have r1 := (HK1.out w8 hk _ l1 (by omega) 0).trans q1; have r2 := (HK1.out w8 hk _ l1 (by omega) 1).trans q2)
    | (go_at_call 21; have g8 := LG.kt HLd.out hk.k hpl; have HA := addMsg lv mu he ms D l x k i w8 g8; refine HA.mono ?_; intro e w9 hA; obtain ⟨rfl, m1, m2, m3⟩ := hA; have r4 := (HK2.out w8 w9 hk m2 _ (by omega) l0 0).trans r0; have r5 := (HK2.out w8 w9 hk m2 _ (by omega) l1 0).trans r1; have r6 := (HK2.out w8 w9 hk m2 _ (by omega) l1 1).trans r2))
  go_wp2_with fail
  go_end0
  exact HF.out w8 w9 hk m1 m2 m3
end MF
end Go.Proofs.YtkkkamniccgblaaFmt
