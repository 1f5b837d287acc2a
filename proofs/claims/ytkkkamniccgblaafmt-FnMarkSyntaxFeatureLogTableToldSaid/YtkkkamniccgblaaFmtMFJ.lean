/- Proved here: what markSyntaxFeature leaves where the feature is supported. -/
import Derived.Test.YtkkkamniccgblaaFmtMFI
import Derived.WalkKit
import Derived.WalkSpells
import Derived.WalkLawsBesides
import Derived.Lib.Hide
import Derived.Lib.SliceRun
import Derived.Deep.RegionWith
import Derived.BigRegion
import Derived.BigQuiet
import Derived.OwnWalk
import Derived.Laws.OwnMore
import Derived.Deep.Cut
import Derived.Carry
import Derived.IntWalk
import Derived.StillTailTactics
import Derived.Deep.RegionHeld3
namespace Go.Proofs.YtkkkamniccgblaaFmt
open Go.RowKit
set_option linter.unusedSimpArgs false
set_option linter.unusedVariables false

namespace MF
/-- The parser that is asked. -/
structure PM (w : World) (p lv mu he ms : Nat) (env ct a b : ByteArray) (uns : Int) (mask : Nat) (fmt tbc : Int) (sup : Bool) : Prop where
  c18 : w.cell? ⟨p, 18, none⟩ = some (.string env)
  c23 : w.cell? ⟨p, 23, none⟩ = some (.int .u64 uns)
  c25 : w.cell? ⟨p, 25, none⟩ = some (.int .u64 mask)
  c36 : w.cell? ⟨p, 36, none⟩ = some (.int .u8 fmt)
  c51 : w.cell? ⟨p, 51, none⟩ = some (.func (.func 21) #[] #[.pointer (some ⟨lv, 0, none⟩), .pointer (some ⟨mu, 0, none⟩), .pointer (some ⟨he, 0, none⟩), .pointer (some ⟨ms, 0, none⟩)])
  c52 : w.cell? ⟨p, 52, none⟩ = some (.func (.func 24) #[] #[.pointer (some ⟨mu, 0, none⟩), .pointer (some ⟨he, 0, none⟩)])
  c53 : w.cell? ⟨p, 53, none⟩ = some (.func (.func 25) #[] #[.pointer (some ⟨mu, 0, none⟩), .pointer (some ⟨ms, 0, none⟩)])
  c54 : w.cell? ⟨p, 54, none⟩ = some (.func (.func 26) #[] #[.pointer (some ⟨mu, 0, none⟩), .pointer (some ⟨ms, 0, none⟩)])
  c55 : w.cell? ⟨p, 55, none⟩ = some (.int .i8 3)
  c56 : w.cell? ⟨p, 56, none⟩ = some (.map none)
  c60 : w.cell? ⟨p, 60, none⟩ = some (.string ct)
  c329 : w.cell? ⟨p, 329, none⟩ = some (.int .i32 tbc)
  c341 : w.cell? ⟨p, 341, none⟩ = some (.bool sup)
  tk : TK w p ct a b 0 0 0 0 true false
  lg : LG w lv mu he ms 0
  tb : Lib.Utf8Tabs 0 1 w
theorem PM.below {w w' : World} {p lv mu he ms : Nat} {env ct a b : ByteArray} {uns : Int} {mask : Nat} {fmt tbc : Int} {sup : Bool} (h : PM w p lv mu he ms env ct a b uns mask fmt tbc sup) (hb : Below w.heap.size w w') : PM w' p lv mu he ms env ct a b uns mask fmt tbc sup :=
  ⟨kept hb h.c18, kept hb h.c23, kept hb h.c25, kept hb h.c36, kept hb h.c51, kept hb h.c52, kept hb h.c53, kept hb h.c54, kept hb h.c55, kept hb h.c56, kept hb h.c60, kept hb h.c329, kept hb h.c341, h.tk.below hb, h.lg.below hb (World.block_lt_of_cell? _ _ h.lg.l) (World.block_lt_of_cell? _ _ h.lg.m) (World.block_lt_of_cell? _ _ h.lg.h.choose_spec) (World.block_lt_of_cell? _ _ h.lg.s), tabsX (X := []) (by simp) (by simp) h.tb (KX.ofBelow hb)⟩
theorem AEP.back {w W w' : World} {p lv mu he ms : Nat} {k : Int} {e : Ending} (hb : Below w.heap.size w W) (lp : p < w.heap.size) (h : AEP p lv mu he ms k W e w') : AEP p lv mu he ms k w e w' := by
  obtain ⟨h1, h2, h3, h4, h5⟩ := h
  have s1 : w.heap.size ≤ W.heap.size := hb.size
  refine ⟨h1, h2, (KX.ofBelow hb).trans h3, fun i hi => (h4 i hi).trans (hb.cell lp), fun B x0 x1 x2 x3 x4 => (hb.mono x4).trans (h5 B x0 x1 x2 x3 (by omega))⟩
theorem spr1d (f s : ByteArray) (T : TypeId) (H : Nat) (w : World) (hH : H = w.heap.size) : (callFunc 16 #[.string f, .slice (some ⟨H, 0, none⟩) 1 1]).run Tryf.prog (w.alloc (.cells #[.iface 9 (.string s)] T)).drew = .ok (.value (.string (txt f [.iface 9 (.string s)] T w.drew))) (w.alloc (.cells #[.iface 9 (.string s)] T)).drew.drew := spr1 f s T H w.drew hH
theorem spr2d (f s s2 : ByteArray) (T : TypeId) (H : Nat) (w : World) (hH : H = w.heap.size) : (callFunc 16 #[.string f, .slice (some ⟨H, 0, none⟩) 2 2]).run Tryf.prog (w.alloc (.cells #[.iface 9 (.string s), .iface 9 (.string s2)] T)).drew = .ok (.value (.string (txt f [.iface 9 (.string s), .iface 9 (.string s2)] T w.drew))) (w.alloc (.cells #[.iface 9 (.string s), .iface 9 (.string s2)] T)).drew.drew := spr2 f s s2 T H w.drew hH
def resB (uns f fmt : Int) : Bool := hasB uns f || (decide (f = 144115188075855872) && !keepB fmt)
def kindOf (uns f tbc : Int) (sup : Bool) : Int := if hasB uns f = true ∧ (f = 32 ∨ f = 17179869184) then (if sup = true ∨ 0 < tbc then 4 else 1) else 0
/-- What markSyntaxFeature leaves. -/
def MSP (p lv mu he ms : Nat) (uns f fmt tbc : Int) (sup : Bool) (w : World) (e : Ending) (w' : World) : Prop :=
  e = .returned (.bool (resB uns f fmt)) ∧ (resB uns f fmt = true → AEP p lv mu he ms (kindOf uns f tbc sup) w (.returned (.tuple #[])) w') ∧ (resB uns f fmt = false → Below w.heap.size w w')

theorem addErr2 {p lv mu he ms o ln : Nat} {env ct a b : ByteArray} {uns : Int} {mask : Nat} {fmt tbc : Int} {sup : Bool} (W W' : World) (D : DD lv mu he ms) (h : PM W p lv mu he ms env ct a b uns mask fmt tbc sup) (hb : Below W.heap.size W W') (ho : o ≤ ct.size) (hln : ln ≤ ct.size) (hs : ct.size ≤ 1048576) (hp0 : p ≠ 0) (hp1 : p ≠ 1) (hpl : p ≠ lv ∧ p ≠ mu ∧ p ≠ he ∧ p ≠ ms) (x : ByteArray) :
    Calls Tryf.prog 15 #[.agg (lgv lv mu he ms), .pointer (some ⟨p, 67, none⟩), .agg #[il o, il ln], .string x] W' (AEP p lv mu he ms 0 W) :=
  (addError p o ln lv mu he ms D ct a b x W' ho hln hs (h.below hb).tb hp0 hp1 hpl (h.below hb).tk (h.below hb).lg).mono fun _ _ q => q.back hb (World.block_lt_of_cell? _ _ h.c18)
theorem addId2 {p lv mu he ms o ln : Nat} {env ct a b : ByteArray} {uns : Int} {mask : Nat} {fmt tbc : Int} {sup : Bool} (W W' : World) (D : DD lv mu he ms) (h : PM W p lv mu he ms env ct a b uns mask fmt tbc sup) (hb : Below W.heap.size W W') (ho : o ≤ ct.size) (hln : ln ≤ ct.size) (hs : ct.size ≤ 1048576) (hp0 : p ≠ 0) (hp1 : p ≠ 1) (hpl : p ≠ lv ∧ p ≠ mu ∧ p ≠ he ∧ p ≠ ms) (x : ByteArray) (i k : Int) :
    Calls Tryf.prog 20 #[.agg (lgv lv mu he ms), .int .u8 i, .int .u8 k, .pointer (some ⟨p, 67, none⟩), .agg #[il o, il ln], .string x] W' (AEP p lv mu he ms k W) :=
  (addID p o ln lv mu he ms i k D ct a b x W' ho hln hs (h.below hb).tb hp0 hp1 hpl (h.below hb).tk (h.below hb).lg).mono fun _ _ q => q.back hb (World.block_lt_of_cell? _ _ h.c18)

set_option maxRecDepth 100000 in
set_option maxHeartbeats 4000000 in
theorem markSup (p lv mu he ms o ln : Nat) (env ct a b : ByteArray) (uns : Int) (mask : Nat) (f fmt tbc : Int) (sup : Bool) (D : DD lv mu he ms) (w : World) (ho : o ≤ ct.size) (hln : ln ≤ ct.size) (hs : ct.size ≤ 1048576) (hp0 : p ≠ 0) (hp1 : p ≠ 1) (hpl : p ≠ lv ∧ p ≠ mu ∧ p ≠ he ∧ p ≠ ms) (h : PM w p lv mu he ms env ct a b uns mask fmt tbc sup) (hu : hasB uns f = false) :
    Calls Tryf.prog 11 #[.pointer (some ⟨p, 0, none⟩), .int .u64 f, .agg #[il o, il ln]] w (MSP p lv mu he ms uns f fmt tbc sup w) := by
  have HNE : Hid (w.heap.size ∉ [p, mu, he, ms]) := Lib.hid (by
    have x2 := World.block_lt_of_cell? _ _ h.lg.m
    have x3 := World.block_lt_of_cell? _ _ h.lg.h.choose_spec
    have x4 := World.block_lt_of_cell? _ _ h.lg.s
    have x5 := World.block_lt_of_cell? _ _ h.c18
    simp only at x2 x3 x4 x5
    simp only [List.mem_cons, List.not_mem_nil, or_false, not_or]; omega)
  have lp : p < w.heap.size := World.block_lt_of_cell? _ _ h.c18
  obtain ⟨W, hW⟩ : ∃ W, W = w.alloc (.cells #[il o, il ln] 56) := ⟨_, rfl⟩
  have HB : Below w.heap.size w W := by rw [hW]; exact (Below.refl _ w).alloc (Nat.le_refl _) _
  have at0 : At W w.heap.size 56 #[il o, il ln] := by rw [hW]; exact At.new _ _ _
  have h1 := h.below HB
  have hs0 : W.heap.size = w.heap.size + 1 := by rw [hW]; simp
  have HHW := Lib.hid hW
  have x23 : (w.alloc (.cells #[il o, il ln] 56)).cell? ⟨p, 23, none⟩ = some (.int .u64 uns) := by rw [← hW]; exact h1.c23
  have x36 : (w.alloc (.cells #[il o, il ln] 56)).cell? ⟨p, 36, none⟩ = some (.int .u8 fmt) := by rw [← hW]; exact h1.c36
  obtain ⟨H, hH⟩ : ∃ H, H = w.heap.size := ⟨_, rfl⟩
  have q0 : W.cell? ⟨w.heap.size, 0, none⟩ = some (il o) := by rw [At.cell at0]; rfl
  have q1 : W.cell? ⟨w.heap.size, 1, none⟩ = some (il ln) := by rw [At.cell at0]; rfl
  have HPM := Lib.hid h1
  have d18 := h1.c18
  have d23 := h1.c23
  have d25 := h1.c25
  have d36 := h1.c36
  have d51 := h1.c51
  have d52 := h1.c52
  have d53 := h1.c53
  have d54 := h1.c54
  have d55 := h1.c55
  have d56 := h1.c56
  have d60 := h1.c60
  have d329 := h1.c329
  have d341 := h1.c341
  have HBh := Lib.hid HB
  have HE := Lib.hid (fun (W' : World) (hb : Below W.heap.size W W') (x : ByteArray) => addErr2 W W' D HPM.out hb ho hln hs hp0 hp1 hpl x)
  have HI := Lib.hid (fun (W' : World) (hb : Below W.heap.size W W') (x : ByteArray) (i k : Int) => addId2 W W' D HPM.out hb ho hln hs hp0 hp1 hpl x i k)
  clear h1 HB at0 hW h
  have HH : Hid (∀ w8, Calls Tryf.prog 13 #[.int .u64 uns, .int .u64 f] w8 fun e w' => e = .returned (.bool false) ∧ w' = w8) := Lib.hid (fun w8 => by rw [← hu]; exact has _ _ _)
  by_cases hf : f = 144115188075855872
  · subst hf
    cases hk : keepB fmt
    · have HK : Hid (∀ w8, Calls Tryf.prog 14 #[.int .u8 fmt] w8 fun e w' => e = .returned (.bool false) ∧ w' = w8) := Lib.hid (fun w8 => by rw [← hk]; exact keep _ _)
      have hr : resB uns 144115188075855872 fmt = true := by simp [resB, hk]
      have hkd : kindOf uns 144115188075855872 tbc sup = 0 := by simp [kindOf, hu]
      have HP : Hid (∀ w9, AEP p lv mu he ms 0 W (.returned (.tuple #[])) w9 → MSP p lv mu he ms uns 144115188075855872 fmt tbc sup w (.returned (.bool true)) w9) := Lib.hid (fun w9 q => ⟨by rw [hr], fun _ => by rw [hkd]; exact q.back HBh.out lp, fun e => (by rw [hr] at e; cases e)⟩)
      have HS1 := spr1
      have HSd := spr1d
      clear hr hkd hk hu
      have hs1 : w.heap.size < W.heap.size := by omega
      clear hs0 hH
      go_enter Tryf.func11, Tryf.ntmps11
      go_wp2_with (first
        | (go_at_call 13; refine (HH.out _).mono ?_; rintro e w' ⟨rfl, rfl⟩)
        | (go_at_call 14; refine (HK.out _).mono ?_; rintro e w' ⟨rfl, rfl⟩))
      rw [← HHW.out]
      clear x23 x36
      go_region_held3 (fun w' => w'.cell? ⟨p, 36, none⟩ = some (.int .u8 fmt) ∧ w'.cell? ⟨p, 51, none⟩ = some (.func (.func 21) #[] #[.pointer (some ⟨lv, 0, none⟩), .pointer (some ⟨mu, 0, none⟩), .pointer (some ⟨he, 0, none⟩), .pointer (some ⟨ms, 0, none⟩)]) ∧ w'.cell? ⟨p, 52, none⟩ = some (.func (.func 24) #[] #[.pointer (some ⟨mu, 0, none⟩), .pointer (some ⟨he, 0, none⟩)]) ∧ w'.cell? ⟨p, 53, none⟩ = some (.func (.func 25) #[] #[.pointer (some ⟨mu, 0, none⟩), .pointer (some ⟨ms, 0, none⟩)]) ∧ w'.cell? ⟨p, 54, none⟩ = some (.func (.func 26) #[] #[.pointer (some ⟨mu, 0, none⟩), .pointer (some ⟨ms, 0, none⟩)]) ∧ w'.cell? ⟨p, 55, none⟩ = some (.int .i8 3) ∧ w'.cell? ⟨p, 56, none⟩ = some (.map none) ∧ w'.cell? ⟨w.heap.size, 0, none⟩ = some (il o) ∧ w'.cell? ⟨w.heap.size, 1, none⟩ = some (il ln)) (repeat' (first | (refine And.intro ?_ ?_) | (with_reducible assumption) | (with_reducible apply kDrew) | (with_reducible apply kAlloc))) (first
        | (go_at_call 17; refine (fstr _ _).mono ?_; rintro e w' ⟨⟨s, rfl⟩, rfl⟩)
        | (go_at_call 15; refine (HE.out _ (by repeat (first | with_reducible exact (Below.refl _ _) | (with_reducible refine Below.drew ?_) | (with_reducible refine below_drewN ?_ _) | (with_reducible refine Below.alloc ?_ (by first | exact Nat.le_refl _ | (have := Below.size (Below.refl _ _); simp; done) | (have := Below.size (Below.refl _ _); simp; omega)) _))) _).mono ?_; rintro e w9 hA; have HA := Lib.hid hA; obtain ⟨rfl, -, m3, m4, -⟩ := hA; have g51 := (m4 51 (by omega)).trans d51; have g52 := (m4 52 (by omega)).trans d52; have g53 := (m4 53 (by omega)).trans d53; have g54 := (m4 54 (by omega)).trans d54; have g55 := (m4 55 (by omega)).trans d55; have g56 := (m4 56 (by omega)).trans d56; have g36 := (m4 36 (by omega)).trans d36; have g0 := (World.cell?_of_block (w := W) (a := ⟨w.heap.size, 0, none⟩) (m3.2 w.heap.size (by omega) HNE.out)).trans q0; have g1 := (World.cell?_of_block (w := W) (a := ⟨w.heap.size, 1, none⟩) (m3.2 w.heap.size (by omega) HNE.out)).trans q1; clear m3 m4))
      go_wp2_with fail
      go_ret
      exact HP.out _ HA.out
    · have HK : Hid (∀ w8, Calls Tryf.prog 14 #[.int .u8 fmt] w8 fun e w' => e = .returned (.bool true) ∧ w' = w8) := Lib.hid (fun w8 => by rw [← hk]; exact keep _ _)
      have hr : resB uns 144115188075855872 fmt = false := by simp [resB, hk, hu]
      have HP : Hid (MSP p lv mu he ms uns 144115188075855872 fmt tbc sup w (.returned (.bool false)) W) := Lib.hid ⟨by rw [hr], fun e => (by rw [hr] at e; cases e), fun _ => HBh.out⟩
      clear hr hk hu hs0 hH
      go_enter Tryf.func11, Tryf.ntmps11
      go_wp2_with (first
        | (go_at_call 13; refine (HH.out _).mono ?_; rintro e w' ⟨rfl, rfl⟩)
        | (go_at_call 14; refine (HK.out _).mono ?_; rintro e w' ⟨rfl, rfl⟩))
      go_ret
      rw [← HHW.out]
      exact HP.out
  · have hr : resB uns f fmt = false := by simp [resB, hu, hf]
    have HP : Hid (MSP p lv mu he ms uns f fmt tbc sup w (.returned (.bool false)) W) := Lib.hid ⟨by rw [hr], fun e => (by rw [hr] at e; cases e), fun _ => HBh.out⟩
    have hfb : (f == 144115188075855872) = false := beq_false_of_ne hf
    clear hr hu hs0 hH
    go_enter Tryf.func11, Tryf.ntmps11
    go_wp2_with (first
      | (go_at_call 13; refine (HH.out _).mono ?_; rintro e w' ⟨rfl, rfl⟩))
    go_ret
    rw [← HHW.out]
    exact HP.out
end MF
end Go.Proofs.YtkkkamniccgblaaFmt
