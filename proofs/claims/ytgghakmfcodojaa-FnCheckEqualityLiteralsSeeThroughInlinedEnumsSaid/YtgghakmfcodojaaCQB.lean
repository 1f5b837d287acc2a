/- Proved here: CheckEqualityIfNoSideEffects at literals and at literals inside inlined enums; contracts of mkLit, wrapInlined and of the guards. Conditions as stated. -/
import Derived.Test.YtgghakmfcodojaaCQA
import Derived.WalkKit
import Derived.WalkSpells
import Derived.WalkLawsBesides
import Derived.Lib.Hide
import Derived.Lib.SliceRun
import Derived.Deep.RegionWith
import Derived.Deep.QuietTactic
import Derived.BigQuiet
namespace Go.Proofs.Ytgghakmfcodojaa.Cq
open Go.RowKit
set_option linter.unusedSimpArgs false
set_option linter.unusedVariables false

def kd (strict : Bool) : Int := if strict then 1 else 0
theorem cty_ne (k : Nat) : ¬ cty k = 65 := by
  unfold cty
  repeat' split
  all_goals omega
theorem ceq_leaf (strict : Bool) (k x : Nat) (b : Bool) (s : ByteArray) (a : Option Addr) (n c : Nat) (zs : List Int) (k' x' : Nat) (b' : Bool) (s' : ByteArray) (a' : Option Addr) (n' c' : Nat) (zs' : List Int) (p q : Nat) (w : World) (hk : k ≤ 5) (hk' : k' ≤ 5) (h1 : CAt w p k x b s a n c) (h2 : CAt w q k' x' b' s' a' n' c') (r1 : RowV w a n (fun i => .int .u16 (uAt zs i))) (r2 : RowV w a' n' (fun i => .int .u16 (uAt zs' i))) (m1 : n ≤ 1048576) (m2 : n' ≤ 1048576) (m3 : s.size ≤ 1048576) (m4 : s'.size ≤ 1048576) :
    Calls Try.prog 19 #[.iface (cty k) (.pointer (some ⟨p, 0, none⟩)), .iface (cty k') (.pointer (some ⟨q, 0, none⟩)), .int .u8 (kd strict)] w (QP (cr strict k x b s n zs k' x' b' s' n' zs').1 (cr strict k x b s n zs k' x' b' s' n' zs').2 w) := by
  have hh : k = 0 ∨ k = 1 ∨ k = 2 ∨ k = 3 ∨ k = 4 ∨ k = 5 := by omega
  have hh' : k' = 0 ∨ k' = 1 ∨ k' = 2 ∨ k' = 3 ∨ k' = 4 ∨ k' = 5 := by omega
  cases strict
  · rcases hh with rfl | rfl | rfl | rfl | rfl | rfl
    · rcases hh' with rfl | rfl | rfl | rfl | rfl | rfl
      · exact c0_00 p q w
      · exact c0_01 p q w
      · exact c0_02 p q w
      · exact c0_03 p q w
      · exact c0_04 p q w
      · exact c0_05 p q w
    · rcases hh' with rfl | rfl | rfl | rfl | rfl | rfl
      · exact c0_10 p q w
      · exact c0_11 p q w
      · exact c0_12 p q w
      · exact c0_13 p q w
      · exact c0_14 p q w
      · exact c0_15 p q w
    · rcases hh' with rfl | rfl | rfl | rfl | rfl | rfl
      · exact c0_20 p q w
      · exact c0_21 p q w
      · exact c0_22 p q b b' w (h1.1 rfl) (h2.1 rfl)
      · cases b
        · exact c0_23f p q x' w (h1.1 rfl) (h2.2.1 rfl)
        · exact c0_23t p q x' w (h1.1 rfl) (h2.2.1 rfl)
      · exact c0_24 p q w
      · exact c0_25 p q w
    · rcases hh' with rfl | rfl | rfl | rfl | rfl | rfl
      · exact c0_30 p q w
      · exact c0_31 p q w
      · cases b'
        · exact c0_32f p q x w (h2.1 rfl) (h1.2.1 rfl)
        · exact c0_32t p q x w (h2.1 rfl) (h1.2.1 rfl)
      · exact c0_33 p q x x' w (h1.2.1 rfl) (h2.2.1 rfl)
      · exact c0_34 p q w
      · exact c0_35 p q w
    · rcases hh' with rfl | rfl | rfl | rfl | rfl | rfl
      · exact c0_40 p q w
      · exact c0_41 p q w
      · exact c0_42 p q w
      · exact c0_43 p q w
      · exact c0_44 p q s s' w (h1.2.2.1 rfl) (h2.2.2.1 rfl) m3 m4
      · exact c0_45 p q w
    · rcases hh' with rfl | rfl | rfl | rfl | rfl | rfl
      · exact c0_50 p q w
      · exact c0_51 p q w
      · exact c0_52 p q w
      · exact c0_53 p q w
      · exact c0_54 p q w
      · exact c0_55 p q a a' n n' c c' zs zs' w (h1.2.2.2 rfl) (h2.2.2.2 rfl) r1 r2 m1 m2
  · rcases hh with rfl | rfl | rfl | rfl | rfl | rfl
    · rcases hh' with rfl | rfl | rfl | rfl | rfl | rfl
      · exact c1_00 p q w
      · exact c1_01 p q w
      · exact c1_02 p q w
      · exact c1_03 p q w
      · exact c1_04 p q w
      · exact c1_05 p q w
    · rcases hh' with rfl | rfl | rfl | rfl | rfl | rfl
      · exact c1_10 p q w
      · exact c1_11 p q w
      · exact c1_12 p q w
      · exact c1_13 p q w
      · exact c1_14 p q w
      · exact c1_15 p q w
    · rcases hh' with rfl | rfl | rfl | rfl | rfl | rfl
      · exact c1_20 p q w
      · exact c1_21 p q w
      · exact c1_22 p q b b' w (h1.1 rfl) (h2.1 rfl)
      · exact c1_23 p q w
      · exact c1_24 p q w
      · exact c1_25 p q w
    · rcases hh' with rfl | rfl | rfl | rfl | rfl | rfl
      · exact c1_30 p q w
      · exact c1_31 p q w
      · exact c1_32 p q w
      · exact c1_33 p q x x' w (h1.2.1 rfl) (h2.2.1 rfl)
      · exact c1_34 p q w
      · exact c1_35 p q w
    · rcases hh' with rfl | rfl | rfl | rfl | rfl | rfl
      · exact c1_40 p q w
      · exact c1_41 p q w
      · exact c1_42 p q w
      · exact c1_43 p q w
      · exact c1_44 p q s s' w (h1.2.2.1 rfl) (h2.2.2.1 rfl) m3 m4
      · exact c1_45 p q w
    · rcases hh' with rfl | rfl | rfl | rfl | rfl | rfl
      · exact c1_50 p q w
      · exact c1_51 p q w
      · exact c1_52 p q w
      · exact c1_53 p q w
      · exact c1_54 p q w
      · exact c1_55 p q a a' n n' c c' zs zs' w (h1.2.2.2 rfl) (h2.2.2.2 rfl) r1 r2 m1 m2

set_option maxRecDepth 100000 in
set_option maxHeartbeats 1000000 in
theorem enR (t x s p q : Nat) (k : Int) (e1 o1 : Bool) (w : World) (h0 : w.cell? ⟨q, 0, none⟩ = some (.iface s (.pointer (some ⟨p, 0, none⟩)))) (C : Calls Try.prog 19 #[.iface t (.pointer (some ⟨x, 0, none⟩)), .iface s (.pointer (some ⟨p, 0, none⟩)), .int .u8 k] w (QP e1 o1 w)) :
    Calls Try.prog 19 #[.iface t (.pointer (some ⟨x, 0, none⟩)), .iface 65 (.pointer (some ⟨q, 0, none⟩)), .int .u8 k] w (QP e1 o1 w) := by
  have HC := Lib.hid C
  clear C
  go_enter Try.func19, Try.ntmps19
  go_wp2_with fail
  refine HC.out.mono ?_
  rintro e w1 ⟨rfl, m, rfl⟩
  go_wp2_with fail
  go_ret2
  exact ⟨rfl, ⟨m, rfl⟩⟩

set_option maxRecDepth 100000 in
set_option maxHeartbeats 1000000 in
theorem enL (t x s p q : Nat) (k : Int) (e1 o1 : Bool) (w : World) (ht : ¬ t = 65) (h0 : w.cell? ⟨q, 0, none⟩ = some (.iface s (.pointer (some ⟨p, 0, none⟩)))) (C : Calls Try.prog 19 #[.iface s (.pointer (some ⟨p, 0, none⟩)), .iface t (.pointer (some ⟨x, 0, none⟩)), .int .u8 k] w (QP e1 o1 w)) :
    Calls Try.prog 19 #[.iface 65 (.pointer (some ⟨q, 0, none⟩)), .iface t (.pointer (some ⟨x, 0, none⟩)), .int .u8 k] w (QP e1 o1 w) := by
  have HC := Lib.hid C
  clear C
  go_enter Try.func19, Try.ntmps19
  go_wp2_with fail
  refine HC.out.mono ?_
  rintro e w1 ⟨rfl, m, rfl⟩
  go_wp2_with fail
  go_ret2
  exact ⟨rfl, ⟨m, rfl⟩⟩

/-- The node t, p is d inlined enums (at blocks from B on) around the node T, P. -/
def WD (w : World) (B T P : Nat) : Nat → Nat → Nat → Prop
  | 0, t, p => t = T ∧ p = P
  | d + 1, t, p => t = 65 ∧ B ≤ p ∧ ∃ t' p', w.cell? ⟨p, 0, none⟩ = some (.iface t' (.pointer (some ⟨p', 0, none⟩))) ∧ WD w B T P d t' p'
theorem WD.mono {w w' : World} {B T P : Nat} (hm : ∀ b o u, B ≤ b → w.cell? ⟨b, o, none⟩ = some u → w'.cell? ⟨b, o, none⟩ = some u) : ∀ {d t p : Nat}, WD w B T P d t p → WD w' B T P d t p
  | 0, _, _, h => h
  | d + 1, _, _, ⟨h1, h0, t', p', h2, h3⟩ => ⟨h1, h0, t', p', hm _ _ _ h0 h2, WD.mono hm h3⟩
theorem WD.below {w w' : World} {B T P d t p : Nat} (h : WD w B T P d t p) (hb : Below w.heap.size w w') : WD w' B T P d t p := h.mono fun _ _ _ _ hc => kept hb hc
theorem wdL {w : World} {B T P : Nat} {t x : Nat} {k : Int} {e1 o1 : Bool} (ht : ¬ t = 65) (C : Calls Try.prog 19 #[.iface T (.pointer (some ⟨P, 0, none⟩)), .iface t (.pointer (some ⟨x, 0, none⟩)), .int .u8 k] w (QP e1 o1 w)) : ∀ {d u p : Nat}, WD w B T P d u p → Calls Try.prog 19 #[.iface u (.pointer (some ⟨p, 0, none⟩)), .iface t (.pointer (some ⟨x, 0, none⟩)), .int .u8 k] w (QP e1 o1 w)
  | 0, _, _, ⟨h1, h2⟩ => by subst h1 h2; exact C
  | d + 1, _, _, ⟨h1, _, t', p', h2, h3⟩ => by subst h1; exact enL t x t' p' _ k e1 o1 w ht h2 (wdL ht C h3)
theorem wdR {w : World} {B T P : Nat} {t x : Nat} {k : Int} {e1 o1 : Bool} (C : Calls Try.prog 19 #[.iface t (.pointer (some ⟨x, 0, none⟩)), .iface T (.pointer (some ⟨P, 0, none⟩)), .int .u8 k] w (QP e1 o1 w)) : ∀ {d u p : Nat}, WD w B T P d u p → Calls Try.prog 19 #[.iface t (.pointer (some ⟨x, 0, none⟩)), .iface u (.pointer (some ⟨p, 0, none⟩)), .int .u8 k] w (QP e1 o1 w)
  | 0, _, _, ⟨h1, h2⟩ => by subst h1 h2; exact C
  | d + 1, _, _, ⟨h1, _, t', p', h2, h3⟩ => by subst h1; exact enR t x t' p' _ k e1 o1 w h2 (wdR C h3)

def CfP (k x : Nat) (b : Bool) (s : ByteArray) (a : Option Addr) (n c : Nat) (w : World) (e : Ending) (w' : World) : Prop :=
  ∃ p, e = .returned (.agg #[.iface (cty k) (.pointer (some ⟨p, 0, none⟩)), .int .i32 0]) ∧ CAt w' p k x b s a n c ∧ w.heap.size ≤ p ∧ Below w.heap.size w w'

set_option maxRecDepth 100000 in
set_option maxHeartbeats 1000000 in
theorem mk0 (x : Nat) (b : Bool) (s : ByteArray) (a : Option Addr) (n c : Nat) (w : World) :
    Calls Try.prog 33 #[] w (CfP 0 x b s a n c w) := by
  go_enter Try.func33, Try.ntmps33
  go_wp2_with fail
  exact bodyPost_ret (v := .agg #[.iface 69 (.pointer (some ⟨w.heap.size + 1, 0, none⟩)), .int .i32 0]) (by simp [results, Try.results33, go_sem]) rfl ⟨w.heap.size + 1, rfl, ⟨by simp [go_sem], by simp [go_sem], by simp [go_sem], by simp [go_sem]⟩, by omega, (by repeat (first | with_reducible exact Below.refl _ _ | (with_reducible refine Below.drew ?_) | (with_reducible refine Below.alloc ?_ (by simp; try omega) _) | (with_reducible refine Below.setCell ?_ (by simp; try omega) _)))⟩

set_option maxRecDepth 100000 in
set_option maxHeartbeats 1000000 in
theorem mk1 (x : Nat) (b : Bool) (s : ByteArray) (a : Option Addr) (n c : Nat) (w : World) :
    Calls Try.prog 34 #[] w (CfP 1 x b s a n c w) := by
  go_enter Try.func34, Try.ntmps34
  go_wp2_with fail
  exact bodyPost_ret (v := .agg #[.iface 70 (.pointer (some ⟨w.heap.size + 1, 0, none⟩)), .int .i32 0]) (by simp [results, Try.results34, go_sem]) rfl ⟨w.heap.size + 1, rfl, ⟨by simp [go_sem], by simp [go_sem], by simp [go_sem], by simp [go_sem]⟩, by omega, (by repeat (first | with_reducible exact Below.refl _ _ | (with_reducible refine Below.drew ?_) | (with_reducible refine Below.alloc ?_ (by simp; try omega) _) | (with_reducible refine Below.setCell ?_ (by simp; try omega) _)))⟩

set_option maxRecDepth 100000 in
set_option maxHeartbeats 1000000 in
theorem mk2 (x : Nat) (b : Bool) (s : ByteArray) (a : Option Addr) (n c : Nat) (w : World) :
    Calls Try.prog 35 #[.bool b] w (CfP 2 x b s a n c w) := by
  go_enter Try.func35, Try.ntmps35
  go_wp2_with fail
  exact bodyPost_ret (v := .agg #[.iface 72 (.pointer (some ⟨w.heap.size + 1, 0, none⟩)), .int .i32 0]) (by simp [results, Try.results35, go_sem]) rfl ⟨w.heap.size + 1, rfl, ⟨by simp [go_sem], by simp [go_sem], by simp [go_sem], by simp [go_sem]⟩, by omega, (by repeat (first | with_reducible exact Below.refl _ _ | (with_reducible refine Below.drew ?_) | (with_reducible refine Below.alloc ?_ (by simp; try omega) _) | (with_reducible refine Below.setCell ?_ (by simp; try omega) _)))⟩

set_option maxRecDepth 100000 in
set_option maxHeartbeats 1000000 in
theorem mk3 (x : Nat) (b : Bool) (s : ByteArray) (a : Option Addr) (n c : Nat) (w : World) :
    Calls Try.prog 36 #[.float .f64 x] w (CfP 3 x b s a n c w) := by
  go_enter Try.func36, Try.ntmps36
  go_wp2_with fail
  exact bodyPost_ret (v := .agg #[.iface 75 (.pointer (some ⟨w.heap.size + 1, 0, none⟩)), .int .i32 0]) (by simp [results, Try.results36, go_sem]) rfl ⟨w.heap.size + 1, rfl, ⟨by simp [go_sem], by simp [go_sem], by simp [go_sem], by simp [go_sem]⟩, by omega, (by repeat (first | with_reducible exact Below.refl _ _ | (with_reducible refine Below.drew ?_) | (with_reducible refine Below.alloc ?_ (by simp; try omega) _) | (with_reducible refine Below.setCell ?_ (by simp; try omega) _)))⟩

set_option maxRecDepth 100000 in
set_option maxHeartbeats 1000000 in
theorem mk4 (x : Nat) (b : Bool) (s : ByteArray) (a : Option Addr) (n c : Nat) (w : World) :
    Calls Try.prog 37 #[.string s] w (CfP 4 x b s a n c w) := by
  go_enter Try.func37, Try.ntmps37
  go_wp2_with fail
  exact bodyPost_ret (v := .agg #[.iface 78 (.pointer (some ⟨w.heap.size + 1, 0, none⟩)), .int .i32 0]) (by simp [results, Try.results37, go_sem]) rfl ⟨w.heap.size + 1, rfl, ⟨by simp [go_sem], by simp [go_sem], by simp [go_sem], by simp [go_sem]⟩, by omega, (by repeat (first | with_reducible exact Below.refl _ _ | (with_reducible refine Below.drew ?_) | (with_reducible refine Below.alloc ?_ (by simp; try omega) _) | (with_reducible refine Below.setCell ?_ (by simp; try omega) _)))⟩

set_option maxRecDepth 100000 in
set_option maxHeartbeats 1000000 in
theorem mk5 (x : Nat) (b : Bool) (s : ByteArray) (a : Option Addr) (n c : Nat) (w : World) :
    Calls Try.prog 38 #[.slice a n c] w (CfP 5 x b s a n c w) := by
  go_enter Try.func38, Try.ntmps38
  go_wp2_with fail
  exact bodyPost_ret (v := .agg #[.iface 82 (.pointer (some ⟨w.heap.size + 1, 0, none⟩)), .int .i32 0]) (by simp [results, Try.results38, go_sem]) rfl ⟨w.heap.size + 1, rfl, ⟨by simp [go_sem], by simp [go_sem], by simp [go_sem], by simp [go_sem]⟩, by omega, (by repeat (first | with_reducible exact Below.refl _ _ | (with_reducible refine Below.drew ?_) | (with_reducible refine Below.alloc ?_ (by simp; try omega) _) | (with_reducible refine Below.setCell ?_ (by simp; try omega) _)))⟩

set_option maxRecDepth 100000 in
set_option maxHeartbeats 1000000 in
theorem lit0 (k : Int) (x : Nat) (b : Bool) (s : ByteArray) (a : Option Addr) (n c : Nat) (w : World) (h0 : 0 ≤ k) (h1 : k ≤ 255) (hk : k % 6 = 0) :
    Calls Try.prog 18 #[.int .u8 k, .bool b, .float .f64 x, .string s, .slice a n c] w (CfP 0 x b s a n c w) := by
  go_enter Try.func18, Try.ntmps18
  go_wp2_with fail
  refine (mk0 x b s a n c _).mono ?_
  rintro e w1 ⟨p, rfl, hp, hl, hb⟩
  have hz := hb.size
  simp at hz hl
  have d0 : w1.cell? ⟨w.heap.size, 0, none⟩ = some .nilIface := by rw [hb.cell (by simp)]; simp [go_sem]
  have d1 : w1.cell? ⟨w.heap.size, 1, none⟩ = some (.int .i32 0) := by rw [hb.cell (by simp)]; simp [go_sem]
  have f0 : w1.frozen? ⟨w.heap.size, 0, none⟩ = false := by rw [hb.frozen (by simp)]; simp [go_sem]
  have f1 : w1.frozen? ⟨w.heap.size, 1, none⟩ = false := by rw [hb.frozen (by simp)]; simp [go_sem]
  have BW : Below w.heap.size w w1 := (((Below.refl _ _).alloc (Nat.le_refl _) _) : Below w.heap.size w _).trans (hb.mono (by simp))
  have hlt : w.heap.size < w1.heap.size := by omega
  clear hb
  have HP := Lib.hid hp
  clear hp
  have e0 : cty 0 = 69 := rfl
  rw [e0]
  go_wp2_with fail
  exact bodyPost_ret (v := .agg #[.iface 69 (.pointer (some ⟨p, 0, none⟩)), .int .i32 0]) (by simp [results, Try.results18, go_sem, *]) rfl ⟨p, rfl, (HP.out.mono fun _ _ hc => kSet (kSet hc (by omega)) (by omega)), by omega, (by repeat (first | with_reducible exact BW | (with_reducible refine Below.drew ?_) | (with_reducible refine Below.alloc ?_ (by have := Below.size BW; simp; try omega) _) | (with_reducible refine Below.setCell ?_ (by have := Below.size BW; simp; try omega) _)))⟩

set_option maxRecDepth 100000 in
set_option maxHeartbeats 1000000 in
theorem lit1 (k : Int) (x : Nat) (b : Bool) (s : ByteArray) (a : Option Addr) (n c : Nat) (w : World) (h0 : 0 ≤ k) (h1 : k ≤ 255) (hk : k % 6 = 1) :
    Calls Try.prog 18 #[.int .u8 k, .bool b, .float .f64 x, .string s, .slice a n c] w (CfP 1 x b s a n c w) := by
  go_enter Try.func18, Try.ntmps18
  go_wp2_with fail
  refine (mk1 x b s a n c _).mono ?_
  rintro e w1 ⟨p, rfl, hp, hl, hb⟩
  have hz := hb.size
  simp at hz hl
  have d0 : w1.cell? ⟨w.heap.size, 0, none⟩ = some .nilIface := by rw [hb.cell (by simp)]; simp [go_sem]
  have d1 : w1.cell? ⟨w.heap.size, 1, none⟩ = some (.int .i32 0) := by rw [hb.cell (by simp)]; simp [go_sem]
  have f0 : w1.frozen? ⟨w.heap.size, 0, none⟩ = false := by rw [hb.frozen (by simp)]; simp [go_sem]
  have f1 : w1.frozen? ⟨w.heap.size, 1, none⟩ = false := by rw [hb.frozen (by simp)]; simp [go_sem]
  have BW : Below w.heap.size w w1 := (((Below.refl _ _).alloc (Nat.le_refl _) _) : Below w.heap.size w _).trans (hb.mono (by simp))
  have hlt : w.heap.size < w1.heap.size := by omega
  clear hb
  have HP := Lib.hid hp
  clear hp
  have e0 : cty 1 = 70 := rfl
  rw [e0]
  go_wp2_with fail
  exact bodyPost_ret (v := .agg #[.iface 70 (.pointer (some ⟨p, 0, none⟩)), .int .i32 0]) (by simp [results, Try.results18, go_sem, *]) rfl ⟨p, rfl, (HP.out.mono fun _ _ hc => kSet (kSet hc (by omega)) (by omega)), by omega, (by repeat (first | with_reducible exact BW | (with_reducible refine Below.drew ?_) | (with_reducible refine Below.alloc ?_ (by have := Below.size BW; simp; try omega) _) | (with_reducible refine Below.setCell ?_ (by have := Below.size BW; simp; try omega) _)))⟩

set_option maxRecDepth 100000 in
set_option maxHeartbeats 1000000 in
theorem lit2 (k : Int) (x : Nat) (b : Bool) (s : ByteArray) (a : Option Addr) (n c : Nat) (w : World) (h0 : 0 ≤ k) (h1 : k ≤ 255) (hk : k % 6 = 2) :
    Calls Try.prog 18 #[.int .u8 k, .bool b, .float .f64 x, .string s, .slice a n c] w (CfP 2 x b s a n c w) := by
  go_enter Try.func18, Try.ntmps18
  go_wp2_with fail
  refine (mk2 x b s a n c _).mono ?_
  rintro e w1 ⟨p, rfl, hp, hl, hb⟩
  have hz := hb.size
  simp at hz hl
  have d0 : w1.cell? ⟨w.heap.size, 0, none⟩ = some .nilIface := by rw [hb.cell (by simp)]; simp [go_sem]
  have d1 : w1.cell? ⟨w.heap.size, 1, none⟩ = some (.int .i32 0) := by rw [hb.cell (by simp)]; simp [go_sem]
  have f0 : w1.frozen? ⟨w.heap.size, 0, none⟩ = false := by rw [hb.frozen (by simp)]; simp [go_sem]
  have f1 : w1.frozen? ⟨w.heap.size, 1, none⟩ = false := by rw [hb.frozen (by simp)]; simp [go_sem]
  have BW : Below w.heap.size w w1 := (((Below.refl _ _).alloc (Nat.le_refl _) _) : Below w.heap.size w _).trans (hb.mono (by simp))
  have hlt : w.heap.size < w1.heap.size := by omega
  clear hb
  have HP := Lib.hid hp
  clear hp
  have e0 : cty 2 = 72 := rfl
  rw [e0]
  go_wp2_with fail
  exact bodyPost_ret (v := .agg #[.iface 72 (.pointer (some ⟨p, 0, none⟩)), .int .i32 0]) (by simp [results, Try.results18, go_sem, *]) rfl ⟨p, rfl, (HP.out.mono fun _ _ hc => kSet (kSet hc (by omega)) (by omega)), by omega, (by repeat (first | with_reducible exact BW | (with_reducible refine Below.drew ?_) | (with_reducible refine Below.alloc ?_ (by have := Below.size BW; simp; try omega) _) | (with_reducible refine Below.setCell ?_ (by have := Below.size BW; simp; try omega) _)))⟩

set_option maxRecDepth 100000 in
set_option maxHeartbeats 1000000 in
theorem lit3 (k : Int) (x : Nat) (b : Bool) (s : ByteArray) (a : Option Addr) (n c : Nat) (w : World) (h0 : 0 ≤ k) (h1 : k ≤ 255) (hk : k % 6 = 3) :
    Calls Try.prog 18 #[.int .u8 k, .bool b, .float .f64 x, .string s, .slice a n c] w (CfP 3 x b s a n c w) := by
  go_enter Try.func18, Try.ntmps18
  go_wp2_with fail
  refine (mk3 x b s a n c _).mono ?_
  rintro e w1 ⟨p, rfl, hp, hl, hb⟩
  have hz := hb.size
  simp at hz hl
  have d0 : w1.cell? ⟨w.heap.size, 0, none⟩ = some .nilIface := by rw [hb.cell (by simp)]; simp [go_sem]
  have d1 : w1.cell? ⟨w.heap.size, 1, none⟩ = some (.int .i32 0) := by rw [hb.cell (by simp)]; simp [go_sem]
  have f0 : w1.frozen? ⟨w.heap.size, 0, none⟩ = false := by rw [hb.frozen (by simp)]; simp [go_sem]
  have f1 : w1.frozen? ⟨w.heap.size, 1, none⟩ = false := by rw [hb.frozen (by simp)]; simp [go_sem]
  have BW : Below w.heap.size w w1 := (((Below.refl _ _).alloc (Nat.le_refl _) _) : Below w.heap.size w _).trans (hb.mono (by simp))
  have hlt : w.heap.size < w1.heap.size := by omega
  clear hb
  have HP := Lib.hid hp
  clear hp
  have e0 : cty 3 = 75 := rfl
  rw [e0]
  go_wp2_with fail
  exact bodyPost_ret (v := .agg #[.iface 75 (.pointer (some ⟨p, 0, none⟩)), .int .i32 0]) (by simp [results, Try.results18, go_sem, *]) rfl ⟨p, rfl, (HP.out.mono fun _ _ hc => kSet (kSet hc (by omega)) (by omega)), by omega, (by repeat (first | with_reducible exact BW | (with_reducible refine Below.drew ?_) | (with_reducible refine Below.alloc ?_ (by have := Below.size BW; simp; try omega) _) | (with_reducible refine Below.setCell ?_ (by have := Below.size BW; simp; try omega) _)))⟩

set_option maxRecDepth 100000 in
set_option maxHeartbeats 1000000 in
theorem lit4 (k : Int) (x : Nat) (b : Bool) (s : ByteArray) (a : Option Addr) (n c : Nat) (w : World) (h0 : 0 ≤ k) (h1 : k ≤ 255) (hk : k % 6 = 4) :
    Calls Try.prog 18 #[.int .u8 k, .bool b, .float .f64 x, .string s, .slice a n c] w (CfP 4 x b s a n c w) := by
  go_enter Try.func18, Try.ntmps18
  go_wp2_with fail
  refine (mk4 x b s a n c _).mono ?_
  rintro e w1 ⟨p, rfl, hp, hl, hb⟩
  have hz := hb.size
  simp at hz hl
  have d0 : w1.cell? ⟨w.heap.size, 0, none⟩ = some .nilIface := by rw [hb.cell (by simp)]; simp [go_sem]
  have d1 : w1.cell? ⟨w.heap.size, 1, none⟩ = some (.int .i32 0) := by rw [hb.cell (by simp)]; simp [go_sem]
  have f0 : w1.frozen? ⟨w.heap.size, 0, none⟩ = false := by rw [hb.frozen (by simp)]; simp [go_sem]
  have f1 : w1.frozen? ⟨w.heap.size, 1, none⟩ = false := by rw [hb.frozen (by simp)]; simp [go_sem]
  have BW : Below w.heap.size w w1 := (((Below.refl _ _).alloc (Nat.le_refl _) _) : Below w.heap.size w _).trans (hb.mono (by simp))
  have hlt : w.heap.size < w1.heap.size := by omega
  clear hb
  have HP := Lib.hid hp
  clear hp
  have e0 : cty 4 = 78 := rfl
  rw [e0]
  go_wp2_with fail
  exact bodyPost_ret (v := .agg #[.iface 78 (.pointer (some ⟨p, 0, none⟩)), .int .i32 0]) (by simp [results, Try.results18, go_sem, *]) rfl ⟨p, rfl, (HP.out.mono fun _ _ hc => kSet (kSet hc (by omega)) (by omega)), by omega, (by repeat (first | with_reducible exact BW | (with_reducible refine Below.drew ?_) | (with_reducible refine Below.alloc ?_ (by have := Below.size BW; simp; try omega) _) | (with_reducible refine Below.setCell ?_ (by have := Below.size BW; simp; try omega) _)))⟩

set_option maxRecDepth 100000 in
set_option maxHeartbeats 1000000 in
theorem lit5 (k : Int) (x : Nat) (b : Bool) (s : ByteArray) (a : Option Addr) (n c : Nat) (w : World) (h0 : 0 ≤ k) (h1 : k ≤ 255) (hk : k % 6 = 5) :
    Calls Try.prog 18 #[.int .u8 k, .bool b, .float .f64 x, .string s, .slice a n c] w (CfP 5 x b s a n c w) := by
  go_enter Try.func18, Try.ntmps18
  go_wp2_with fail
  refine (mk5 x b s a n c _).mono ?_
  rintro e w1 ⟨p, rfl, hp, hl, hb⟩
  have hz := hb.size
  simp at hz hl
  have d0 : w1.cell? ⟨w.heap.size, 0, none⟩ = some .nilIface := by rw [hb.cell (by simp)]; simp [go_sem]
  have d1 : w1.cell? ⟨w.heap.size, 1, none⟩ = some (.int .i32 0) := by rw [hb.cell (by simp)]; simp [go_sem]
  have f0 : w1.frozen? ⟨w.heap.size, 0, none⟩ = false := by rw [hb.frozen (by simp)]; simp [go_sem]
  have f1 : w1.frozen? ⟨w.heap.size, 1, none⟩ = false := by rw [hb.frozen (by simp)]; simp [go_sem]
  have BW : Below w.heap.size w w1 := (((Below.refl _ _).alloc (Nat.le_refl _) _) : Below w.heap.size w _).trans (hb.mono (by simp))
  have hlt : w.heap.size < w1.heap.size := by omega
  clear hb
  have HP := Lib.hid hp
  clear hp
  have e0 : cty 5 = 82 := rfl
  rw [e0]
  go_wp2_with fail
  exact bodyPost_ret (v := .agg #[.iface 82 (.pointer (some ⟨p, 0, none⟩)), .int .i32 0]) (by simp [results, Try.results18, go_sem, *]) rfl ⟨p, rfl, (HP.out.mono fun _ _ hc => kSet (kSet hc (by omega)) (by omega)), by omega, (by repeat (first | with_reducible exact BW | (with_reducible refine Below.drew ?_) | (with_reducible refine Below.alloc ?_ (by have := Below.size BW; simp; try omega) _) | (with_reducible refine Below.setCell ?_ (by have := Below.size BW; simp; try omega) _)))⟩

theorem lit_any (k : Int) (x : Nat) (b : Bool) (s : ByteArray) (a : Option Addr) (n c : Nat) (w : World) (h0 : 0 ≤ k) (h1 : k ≤ 255) :
    Calls Try.prog 18 #[.int .u8 k, .bool b, .float .f64 x, .string s, .slice a n c] w (CfP (k % 6).toNat x b s a n c w) := by
  have hk : k % 6 = 0 ∨ k % 6 = 1 ∨ k % 6 = 2 ∨ k % 6 = 3 ∨ k % 6 = 4 ∨ k % 6 = 5 := by omega
  rcases hk with hk | hk | hk | hk | hk | hk
  · rw [show (k % 6).toNat = 0 by omega]; exact lit0 k x b s a n c w h0 h1 hk
  · rw [show (k % 6).toNat = 1 by omega]; exact lit1 k x b s a n c w h0 h1 hk
  · rw [show (k % 6).toNat = 2 by omega]; exact lit2 k x b s a n c w h0 h1 hk
  · rw [show (k % 6).toNat = 3 by omega]; exact lit3 k x b s a n c w h0 h1 hk
  · rw [show (k % 6).toNat = 4 by omega]; exact lit4 k x b s a n c w h0 h1 hk
  · rw [show (k % 6).toNat = 5 by omega]; exact lit5 k x b s a n c w h0 h1 hk

def EnP (t x : Nat) (l : Int) (w : World) (e : Ending) (w' : World) : Prop := ∃ d, e = .returned (.agg #[.iface 65 (.pointer (some ⟨d, 0, none⟩)), .int .i32 0]) ∧ w'.cell? ⟨d, 0, none⟩ = some (.iface t (.pointer (some ⟨x, 0, none⟩))) ∧ w.heap.size ≤ d ∧ Below w.heap.size w w'

set_option maxRecDepth 100000 in
set_option maxHeartbeats 1000000 in
theorem mken (t x : Nat) (l : Int) (w : World) :
    Calls Try.prog 42 #[.agg #[.iface t (.pointer (some ⟨x, 0, none⟩)), .int .i32 l]] w (EnP t x l w) := by
  go_enter Try.func42, Try.ntmps42
  go_wp2_with fail
  exact bodyPost_ret (v := .agg #[.iface 65 (.pointer (some ⟨w.heap.size + 2, 0, none⟩)), .int .i32 0]) (by simp [results, Try.results42, go_sem]) rfl ⟨w.heap.size + 2, rfl, by simp [go_sem], by omega, (by repeat (first | with_reducible exact Below.refl _ _ | (with_reducible refine Below.drew ?_) | (with_reducible refine Below.alloc ?_ (by simp; try omega) _) | (with_reducible refine Below.setCell ?_ (by simp; try omega) _)))⟩

def WrapP (T P d : Nat) (w : World) (e : Ending) (w' : World) : Prop := ∃ t p, e = .returned (.agg #[.iface t (.pointer (some ⟨p, 0, none⟩)), .int .i32 0]) ∧ WD w' (w.heap.size + 2) T P d t p ∧ Below w.heap.size w w'
def WRel (T P d : Nat) (w : World) (i : Value) (wr : World) : Prop :=
  ∃ j t p : Nat, j ≤ d ∧ i = .int .u8 j ∧ Hid (WD wr (w.heap.size + 2) T P j t p) ∧ wr.cell? ⟨w.heap.size, 0, none⟩ = some (.iface t (.pointer (some ⟨p, 0, none⟩))) ∧ wr.cell? ⟨w.heap.size, 1, none⟩ = some (.int .i32 0) ∧ wr.frozen? ⟨w.heap.size, 0, none⟩ = false ∧ wr.frozen? ⟨w.heap.size, 1, none⟩ = false ∧ wr.cell? ⟨w.heap.size + 1, 0, none⟩ = some (.nilIface) ∧ wr.cell? ⟨w.heap.size + 1, 1, none⟩ = some (.int .i32 0) ∧ wr.frozen? ⟨w.heap.size + 1, 0, none⟩ = false ∧ wr.frozen? ⟨w.heap.size + 1, 1, none⟩ = false ∧ Below w.heap.size w wr

set_option maxRecDepth 100000 in
set_option maxHeartbeats 2000000 in
theorem wrap_any (T P d : Nat) (w : World) (hd : d ≤ 255) :
    Calls Try.prog 22 #[.agg #[.iface T (.pointer (some ⟨P, 0, none⟩)), .int .i32 0], .int .u8 (d : Int)] w (WrapP T P d w) := by
  go_enter Try.func22, Try.ntmps22
  go_wp2_with fail
  go_loopw [5] (fun i wr => WRel T P d w i wr) (fun i _ => d - (intOf i).toNat)
  case atStart => exact ⟨0, T, P, by omega, rfl, Lib.hid ⟨rfl, rfl⟩, by simp [go_sem], by simp [go_sem], by simp [go_sem], by simp [go_sem], by simp [go_sem], by simp [go_sem], by simp [go_sem], by simp [go_sem], (by repeat (first | with_reducible exact Below.refl _ _ | (with_reducible refine Below.drew ?_) | (with_reducible refine Below.alloc ?_ (by simp; try omega) _) | (with_reducible refine Below.setCell ?_ (by simp; try omega) _)))⟩
  case round =>
    obtain ⟨j, t, p, hj, rfl, HW, c0, c1, f0, f1, d0, d1, f2, f3, hb⟩ := hrel
    have hz := hb.size
    have l0 : w.heap.size < wr.heap.size := World.block_lt_of_cell? _ _ c0
    have l1 : w.heap.size + 1 < wr.heap.size := World.block_lt_of_cell? _ _ d0
    by_cases hlt : j < d
    · have e1 : decide (j < d) = true := by simpa using hlt
      have e2 : decide ((j : Int) < (d : Int)) = true := by simp; exact hlt
      go_wp2_with fail
      refine (mken t p 0 _).mono ?_
      rintro e w1 ⟨y, rfl, hy, hl, hb1⟩
      have c0' := kept hb1 c0
      have c1' := kept hb1 c1
      have d0' := kept hb1 d0
      have d1' := kept hb1 d1
      have f0' := keptF hb1 c0 f0
      have f1' := keptF hb1 c1 f1
      have f2' := keptF hb1 d0 f2
      have f3' := keptF hb1 d1 f3
      have BW : Below w.heap.size w w1 := bel2 hb hb1
      have HW1 := Lib.hid (HW.out.below hb1)
      have l0' : w.heap.size < w1.heap.size := World.block_lt_of_cell? _ _ c0'
      have l1' : w.heap.size + 1 < w1.heap.size := World.block_lt_of_cell? _ _ d0'
      have HY := Lib.hid hy
      clear c0 c1 d0 d1 f0 f1 f2 f3 HW hb hb1 hy
      go_wp2_with fail
      go_roundw
      case rel =>
        refine ⟨j + 1, 65, y, by omega, by go_num, Lib.hid ⟨rfl, by omega, t, p, kSet (kSet HY.out (by omega)) (by omega), HW1.out.mono fun _ _ _ hB hc => kSet (kSet hc (by omega)) (by omega)⟩, by simp [go_sem, *], by simp [go_sem, *], by simp [go_sem, *], by simp [go_sem, *], by simp [go_sem, *], by simp [go_sem, *], by simp [go_sem, *], by simp [go_sem, *], ?_⟩
        exact (by repeat (first | with_reducible exact BW | (with_reducible refine Below.drew ?_) | (with_reducible refine Below.alloc ?_ (by have := Below.size BW; simp; try omega) _) | (with_reducible refine Below.setCell ?_ (by have := Below.size BW; simp; try omega) _)))
      case measure => simp [intOf]; omega
    · have e0 : j = d := by omega
      subst e0
      have e1 : decide (j < j) = false := by simp
      go_wp2_with fail
      exact bodyPost_ret (v := .agg #[.iface t (.pointer (some ⟨p, 0, none⟩)), .int .i32 0]) (by simp [results, Try.results22, go_sem, *]) rfl ⟨t, p, rfl, (HW.out.mono fun _ _ _ hB hc => kSet (kSet hc (by omega)) (by omega)), (by repeat (first | with_reducible exact hb | (with_reducible refine Below.drew ?_) | (with_reducible refine Below.alloc ?_ (by have := Below.size hb; simp; try omega) _) | (with_reducible refine Below.setCell ?_ (by have := Below.size hb; simp; try omega) _)))⟩
def SomeBool (w : World) (e : Ending) (w' : World) : Prop := ∃ b, e = .returned (.bool b) ∧ w = w'
def IsL (w : World) (e : Ending) (w' : World) : Prop := e = .returned (.bool true) ∧ w = w'

set_option maxRecDepth 100000 in
set_option maxHeartbeats 1000000 in
theorem some16 (g : Bool) (k : Int) (b : Bool) (x : Nat) (s : ByteArray) (a : Option Addr) (n c : Nat) (k' : Int) (b' : Bool) (x' : Nat) (s' : ByteArray) (a' : Option Addr) (n' c' : Nat) (w : World) (m1 : n ≤ 9223372036854775807) (m2 : n' ≤ 9223372036854775807) (m3 : s.size ≤ 9223372036854775807) (m4 : s'.size ≤ 9223372036854775807) :
    Calls Try.prog 16 #[.bool g, .int .u8 k, .bool b, .float .f64 x, .string s, .slice a n c, .int .u8 k', .bool b', .float .f64 x', .string s', .slice a' n' c'] w (SomeBool w) := by
  go_enter Try.func16, Try.ntmps16
  go_wp2_with fail
  all_goals
    go_ret
    exact ⟨_, rfl, rfl⟩

set_option maxRecDepth 100000 in
set_option maxHeartbeats 1000000 in
theorem yes16 (g : Bool) (k : Int) (b : Bool) (x : Nat) (s : ByteArray) (a : Option Addr) (n c : Nat) (k' : Int) (b' : Bool) (x' : Nat) (s' : ByteArray) (a' : Option Addr) (n' c' : Nat) (w : World) (h : n + n' + s.size + s'.size ≤ 1048576) :
    Calls Try.prog 16 #[.bool g, .int .u8 k, .bool b, .float .f64 x, .string s, .slice a n c, .int .u8 k', .bool b', .float .f64 x', .string s', .slice a' n' c'] w (IsL w) := by
  go_enter Try.func16, Try.ntmps16
  go_wp2_with fail
  go_ret
  exact ⟨rfl, rfl⟩

set_option maxRecDepth 100000 in
set_option maxHeartbeats 1000000 in
theorem some21 (g : Bool) (k : Int) (b : Bool) (x : Nat) (s : ByteArray) (a : Option Addr) (n c : Nat) (k' : Int) (b' : Bool) (x' : Nat) (s' : ByteArray) (a' : Option Addr) (n' c' : Nat) (dd : Int) (w : World) (m1 : n ≤ 9223372036854775807) (m2 : n' ≤ 9223372036854775807) (m3 : s.size ≤ 9223372036854775807) (m4 : s'.size ≤ 9223372036854775807) :
    Calls Try.prog 21 #[.bool g, .int .u8 k, .bool b, .float .f64 x, .string s, .slice a n c, .int .u8 k', .bool b', .float .f64 x', .string s', .slice a' n' c', .int .u8 dd] w (SomeBool w) := by
  go_enter Try.func21, Try.ntmps21
  go_wp2_with fail
  all_goals
    go_ret
    exact ⟨_, rfl, rfl⟩

set_option maxRecDepth 100000 in
set_option maxHeartbeats 1000000 in
theorem yes21 (g : Bool) (k : Int) (b : Bool) (x : Nat) (s : ByteArray) (a : Option Addr) (n c : Nat) (k' : Int) (b' : Bool) (x' : Nat) (s' : ByteArray) (a' : Option Addr) (n' c' : Nat) (dd : Int) (w : World) (h : n + n' + s.size + s'.size ≤ 1048576) :
    Calls Try.prog 21 #[.bool g, .int .u8 k, .bool b, .float .f64 x, .string s, .slice a n c, .int .u8 k', .bool b', .float .f64 x', .string s', .slice a' n' c', .int .u8 dd] w (IsL w) := by
  go_enter Try.func21, Try.ntmps21
  go_wp2_with fail
  go_ret
  exact ⟨rfl, rfl⟩

set_option maxRecDepth 100000 in
set_option maxHeartbeats 1000000 in
theorem kind_true  (w : World) :
    Calls Try.prog 20 #[.bool true] w (fun e w' => e = .returned (.int .u8 1) ∧ w' = w) := by
  go_enter Try.func20, Try.ntmps20
  go_wp2_with fail
  go_ret
  exact ⟨rfl, rfl⟩

set_option maxRecDepth 100000 in
set_option maxHeartbeats 1000000 in
theorem kind_false  (w : World) :
    Calls Try.prog 20 #[.bool false] w (fun e w' => e = .returned (.int .u8 0) ∧ w' = w) := by
  go_enter Try.func20, Try.ntmps20
  go_wp2_with fail
  go_ret
  exact ⟨rfl, rfl⟩
end Go.Proofs.Ytgghakmfcodojaa.Cq
