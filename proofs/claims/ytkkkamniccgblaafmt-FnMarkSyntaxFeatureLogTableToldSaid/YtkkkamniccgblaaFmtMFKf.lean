/- Proved here: what markSyntaxFeature leaves where the feature is not supported. -/
import Derived.Test.YtkkkamniccgblaaFmtMFJ
import Derived.WalkKit
import Derived.WalkSpells
import Derived.WalkLawsBesides
import Derived.Lib.Hide
import Derived.Lib.SliceRun
import Derived.Deep.RegionWith
import Derived.BigRegion
import Derived.BigQuiet
import Derived.OwnWalk
import Derived.Laws.OwnMore
import Derived.Deep.Cut
import Derived.Carry
import Derived.IntWalk
import Derived.StillTailTactics
import Derived.Deep.RegionHeld3
namespace Go.Proofs.YtkkkamniccgblaaFmt
open Go.RowKit
set_option linter.unusedSimpArgs false
set_option linter.unusedVariables false
namespace MF

set_option maxRecDepth 100000 in
set_option maxHeartbeats 4000000 in
theorem markDef (p lv mu he ms o ln : Nat) (env ct a b : ByteArray) (uns : Int) (mask : Nat) (f fmt tbc : Int) (sup : Bool) (D : DD lv mu he ms) (w : World) (ho : o ≤ ct.size) (hln : ln ≤ ct.size) (hs : ct.size ≤ 1048576) (hp0 : p ≠ 0) (hp1 : p ≠ 1) (hpl : p ≠ lv ∧ p ≠ mu ∧ p ≠ he ∧ p ≠ ms) (h : PM w p lv mu he ms env ct a b uns mask fmt tbc sup) (hm : mask < 18446744073709551616) (hlo : o + ln ≤ ct.size) (hu : hasB uns f = true) (hf : ¬ (f = 524288 ∨ f = 36028797018963968 ∨ f = 2 ∨ f = 33554432 ∨ f = 8796093022208 ∨ f = 17592186044416 ∨ f = 1048576 ∨ f = 549755813888 ∨ f = 131072 ∨ f = 64 ∨ f = 536870912 ∨ f = 8 ∨ f = 16 ∨ f = 16777216 ∨ f = 274877906944 ∨ f = 4294967296 ∨ f = 144115188075855872 ∨ f = 8589934592 ∨ f = 34359738368 ∨ f = 32 ∨ f = 17179869184)) :
    Calls Tryf.prog 11 #[.pointer (some ⟨p, 0, none⟩), .int .u64 f, .agg #[il o, il ln]] w (MSP p lv mu he ms uns f fmt tbc sup w) := by
  have HNE : Hid (w.heap.size ∉ [p, mu, he, ms]) := Lib.hid (by
    have x2 := World.block_lt_of_cell? _ _ h.lg.m
    have x3 := World.block_lt_of_cell? _ _ h.lg.h.choose_spec
    have x4 := World.block_lt_of_cell? _ _ h.lg.s
    have x5 := World.block_lt_of_cell? _ _ h.c18
    simp only at x2 x3 x4 x5
    simp only [List.mem_cons, List.not_mem_nil, or_false, not_or]; omega)
  have lp : p < w.heap.size := World.block_lt_of_cell? _ _ h.c18
  obtain ⟨W, hW⟩ : ∃ W, W = w.alloc (.cells #[il o, il ln] 56) := ⟨_, rfl⟩
  have HB : Below w.heap.size w W := by rw [hW]; exact (Below.refl _ w).alloc (Nat.le_refl _) _
  have at0 : At W w.heap.size 56 #[il o, il ln] := by rw [hW]; exact At.new _ _ _
  have h1 := h.below HB
  have hs0 : W.heap.size = w.heap.size + 1 := by rw [hW]; simp
  have HHW := Lib.hid hW
  have x23 : (w.alloc (.cells #[il o, il ln] 56)).cell? ⟨p, 23, none⟩ = some (.int .u64 uns) := by rw [← hW]; exact h1.c23
  have x36 : (w.alloc (.cells #[il o, il ln] 56)).cell? ⟨p, 36, none⟩ = some (.int .u8 fmt) := by rw [← hW]; exact h1.c36
  obtain ⟨H, hH⟩ : ∃ H, H = w.heap.size := ⟨_, rfl⟩
  have q0 : W.cell? ⟨w.heap.size, 0, none⟩ = some (il o) := by rw [At.cell at0]; rfl
  have q1 : W.cell? ⟨w.heap.size, 1, none⟩ = some (il ln) := by rw [At.cell at0]; rfl
  have HPM := Lib.hid h1
  have d18 := h1.c18
  have d23 := h1.c23
  have d25 := h1.c25
  have d36 := h1.c36
  have d51 := h1.c51
  have d52 := h1.c52
  have d53 := h1.c53
  have d54 := h1.c54
  have d55 := h1.c55
  have d56 := h1.c56
  have d60 := h1.c60
  have d329 := h1.c329
  have d341 := h1.c341
  have HBh := Lib.hid HB
  have HE := Lib.hid (fun (W' : World) (hb : Below W.heap.size W W') (x : ByteArray) => addErr2 W W' D HPM.out hb ho hln hs hp0 hp1 hpl x)
  have HI := Lib.hid (fun (W' : World) (hb : Below W.heap.size W W') (x : ByteArray) (i k : Int) => addId2 W W' D HPM.out hb ho hln hs hp0 hp1 hpl x i k)
  clear h1 HB at0 hW h
  have hkd : kindOf uns f tbc sup = 0 := by
    simp only [kindOf]; rw [if_neg]; rintro ⟨-, e | e⟩ <;> exact hf (by subst e; simp)
  have n0 : (f == 524288) = false := beq_false_of_ne (fun e => hf (by subst e; simp))
  have n1 : (f == 36028797018963968) = false := beq_false_of_ne (fun e => hf (by subst e; simp))
  have n2 : (f == 2) = false := beq_false_of_ne (fun e => hf (by subst e; simp))
  have n3 : (f == 33554432) = false := beq_false_of_ne (fun e => hf (by subst e; simp))
  have n4 : (f == 8796093022208) = false := beq_false_of_ne (fun e => hf (by subst e; simp))
  have n5 : (f == 17592186044416) = false := beq_false_of_ne (fun e => hf (by subst e; simp))
  have n6 : (f == 1048576) = false := beq_false_of_ne (fun e => hf (by subst e; simp))
  have n7 : (f == 549755813888) = false := beq_false_of_ne (fun e => hf (by subst e; simp))
  have n8 : (f == 131072) = false := beq_false_of_ne (fun e => hf (by subst e; simp))
  have n9 : (f == 64) = false := beq_false_of_ne (fun e => hf (by subst e; simp))
  have n10 : (f == 536870912) = false := beq_false_of_ne (fun e => hf (by subst e; simp))
  have n11 : (f == 8) = false := beq_false_of_ne (fun e => hf (by subst e; simp))
  have n12 : (f == 16) = false := beq_false_of_ne (fun e => hf (by subst e; simp))
  have n13 : (f == 16777216) = false := beq_false_of_ne (fun e => hf (by subst e; simp))
  have n14 : (f == 274877906944) = false := beq_false_of_ne (fun e => hf (by subst e; simp))
  have n15 : (f == 4294967296) = false := beq_false_of_ne (fun e => hf (by subst e; simp))
  have n16 : (f == 144115188075855872) = false := beq_false_of_ne (fun e => hf (by subst e; simp))
  have n17 : (f == 8589934592) = false := beq_false_of_ne (fun e => hf (by subst e; simp))
  have n18 : (f == 34359738368) = false := beq_false_of_ne (fun e => hf (by subst e; simp))
  have n19 : (f == 32) = false := beq_false_of_ne (fun e => hf (by subst e; simp))
  have n20 : (f == 17179869184) = false := beq_false_of_ne (fun e => hf (by subst e; simp))
  clear hf
  have HH : Hid (∀ w8, Calls Tryf.prog 13 #[.int .u64 uns, .int .u64 f] w8 fun e w' => e = .returned (.bool true) ∧ w' = w8) := Lib.hid (fun w8 => by rw [← hu]; exact has _ _ _)
  have hr : resB uns f fmt = true := by simp [resB, hu]
  have HP : Hid (∀ w9, AEP p lv mu he ms 0 W (.returned (.tuple #[])) w9 → MSP p lv mu he ms uns f fmt tbc sup w (.returned (.bool true)) w9) := Lib.hid (fun w9 q => ⟨by rw [hr], fun _ => by rw [hkd]; exact q.back HBh.out lp, fun e => (by rw [hr] at e; cases e)⟩)
  have HS1 := spr1
  have HSd := spr1d
  have HS2 := spr2
  have HSd2 := spr2d
  clear hr hkd hu
  have hs1 : w.heap.size < W.heap.size := by omega
  clear hs0 hH
  go_enter Tryf.func11, Tryf.ntmps11
  go_wp2_with (first
    | (go_at_call 13; refine (HH.out _).mono ?_; rintro e w' ⟨rfl, rfl⟩))
  rw [← HHW.out]
  clear x23 x36
  go_region_held3 (fun w' => w'.cell? ⟨p, 18, none⟩ = some (.string env) ∧ w'.cell? ⟨p, 25, none⟩ = some (.int .u64 mask)) (repeat' (first | (refine And.intro ?_ ?_) | (with_reducible assumption) | (with_reducible apply kDrew) | (with_reducible apply kAlloc))) (first
    | (go_at_call 18; refine (pretty _ _ _ hm).mono ?_; rintro e w8 ⟨⟨s, rfl⟩, hb8⟩; have HB8 := Lib.hid (show Below W.heap.size W w8 from (Below.refl _ W).drew.trans hb8); have l18 := kept HB8.out d18; have l25 := kept HB8.out d25))
  clear l18 l25
  have hs2 : W.heap.size ≤ w8.heap.size := HB8.out.size
  have l51 := kept HB8.out d51
  have l52 := kept HB8.out d52
  have l53 := kept HB8.out d53
  have l54 := kept HB8.out d54
  have l55 := kept HB8.out d55
  have l56 := kept HB8.out d56
  have l329 := kept HB8.out d329
  have l341 := kept HB8.out d341
  have l60 := kept HB8.out d60
  have y0 := kept HB8.out q0
  have y1 := kept HB8.out q1
  go_wp2_with fail
  go_region_held3 (fun w' => w'.cell? ⟨p, 51, none⟩ = some (.func (.func 21) #[] #[.pointer (some ⟨lv, 0, none⟩), .pointer (some ⟨mu, 0, none⟩), .pointer (some ⟨he, 0, none⟩), .pointer (some ⟨ms, 0, none⟩)]) ∧ w'.cell? ⟨p, 52, none⟩ = some (.func (.func 24) #[] #[.pointer (some ⟨mu, 0, none⟩), .pointer (some ⟨he, 0, none⟩)]) ∧ w'.cell? ⟨p, 53, none⟩ = some (.func (.func 25) #[] #[.pointer (some ⟨mu, 0, none⟩), .pointer (some ⟨ms, 0, none⟩)]) ∧ w'.cell? ⟨p, 54, none⟩ = some (.func (.func 26) #[] #[.pointer (some ⟨mu, 0, none⟩), .pointer (some ⟨ms, 0, none⟩)]) ∧ w'.cell? ⟨p, 55, none⟩ = some (.int .i8 3) ∧ w'.cell? ⟨p, 56, none⟩ = some (.map none) ∧ w'.cell? ⟨w.heap.size, 0, none⟩ = some (il o) ∧ w'.cell? ⟨w.heap.size, 1, none⟩ = some (il ln)) (repeat' (first | (refine And.intro ?_ ?_) | (with_reducible assumption) | (with_reducible apply kDrew) | (with_reducible apply kAlloc))) (first
    | (go_at_call 15; refine (HE.out _ (by repeat (first | with_reducible exact HB8.out | (with_reducible refine Below.drew ?_) | (with_reducible refine below_drewN ?_ _) | (with_reducible refine Below.alloc ?_ (by first | exact Nat.le_refl _ | (have := Below.size HB8.out; simp; done) | (have := Below.size HB8.out; simp; omega)) _))) _).mono ?_; rintro e w9 hA; have HA := Lib.hid hA; obtain ⟨rfl, -, m3, m4, -⟩ := hA; have g51 := (m4 51 (by omega)).trans d51; have g52 := (m4 52 (by omega)).trans d52; have g53 := (m4 53 (by omega)).trans d53; have g54 := (m4 54 (by omega)).trans d54; have g55 := (m4 55 (by omega)).trans d55; have g56 := (m4 56 (by omega)).trans d56; have g0 := (World.cell?_of_block (w := W) (a := ⟨w.heap.size, 0, none⟩) (m3.2 w.heap.size (by omega) HNE.out)).trans q0; have g1 := (World.cell?_of_block (w := W) (a := ⟨w.heap.size, 1, none⟩) (m3.2 w.heap.size (by omega) HNE.out)).trans q1; clear m3 m4)
    | (go_at_call 20; refine (HI.out _ (by repeat (first | with_reducible exact HB8.out | (with_reducible refine Below.drew ?_) | (with_reducible refine below_drewN ?_ _) | (with_reducible refine Below.alloc ?_ (by first | exact Nat.le_refl _ | (have := Below.size HB8.out; simp; done) | (have := Below.size HB8.out; simp; omega)) _))) _ _ _).mono ?_; rintro e w9 hA; have HA := Lib.hid hA; obtain ⟨rfl, -, m3, m4, -⟩ := hA; have g51 := (m4 51 (by omega)).trans d51; have g52 := (m4 52 (by omega)).trans d52; have g53 := (m4 53 (by omega)).trans d53; have g54 := (m4 54 (by omega)).trans d54; have g55 := (m4 55 (by omega)).trans d55; have g56 := (m4 56 (by omega)).trans d56; have g0 := (World.cell?_of_block (w := W) (a := ⟨w.heap.size, 0, none⟩) (m3.2 w.heap.size (by omega) HNE.out)).trans q0; have g1 := (World.cell?_of_block (w := W) (a := ⟨w.heap.size, 1, none⟩) (m3.2 w.heap.size (by omega) HNE.out)).trans q1; clear m3 m4))
  go_wp2_with fail
  go_ret
  exact HP.out _ HA.out
end MF
end Go.Proofs.YtkkkamniccgblaaFmt
