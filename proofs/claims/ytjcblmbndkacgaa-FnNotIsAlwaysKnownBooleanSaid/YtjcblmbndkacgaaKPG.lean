/- Proved here: b3Build makes a row of expressions each of which satisfies a predicate that is closed under the node kinds. Conditions: the list's cells, as stated. -/
import Derived.Test.YtjcblmbndkacgaaKPF
import Derived.WalkKit
import Derived.WalkSpells
import Derived.WalkLawsBesides
import Derived.Lib.Hide
import Derived.Lib.SliceRun
import Derived.Deep.RegionWith
import Derived.Deep.RegionHeld3
import Derived.Deep.DeepCutAuto
import Derived.Deep.QuietTactic
import Derived.BigQuiet
namespace Go.Proofs.Ytjcblmbndkacgaa
open Go.RowKit
set_option linter.unusedSimpArgs false
set_option linter.unusedVariables false

theorem Ext.alloc {g : Nat} {a b : World} (h : Ext g a b) (o : Obj) : Ext g a (b.alloc o) := h.trans ⟨by simp, fun k hk _ => Below.heap_alloc b o k hk⟩
theorem Ext.set {g : Nat} {a b : World} (h : Ext g a b) (i : Nat) (v : Value) : Ext g a (b.setCell ⟨g, i, none⟩ v) := h.trans ⟨by simp [World.setCell], fun k _ hg => Below.heap_setCell b ⟨g, i, none⟩ v k hg⟩
def ChB (Φ : World → Value → Prop) (W : World) (e : Ending) (w' : World) : Prop := ∃ v, e = .returned (.agg #[v, .int .i32 0]) ∧ IsI v ∧ Φ W v ∧ Below W.heap.size W w'
theorem childB (Φ : World → Value → Prop) (g n i : Nat) (c : Int) (cs : Array Value) (W W' : World) (hnil : Φ W .nilIface) (hat : At W g 32 cs) (hg : Good Φ W cs n (i + 1)) (hn : n ≤ 1048576) (hi : i < n) (c0 : -2147483648 ≤ c) (c1 : c ≤ 2147483647) (hb : Below W.heap.size W W') :
    Calls Try.prog 26 #[.int .i64 n, .slice (some ⟨g, 0, none⟩) n n, .int .i64 i, .int .i32 c] W' (ChB Φ W) :=
  (child Φ g n i c cs W W' hnil (At.below hat hb hat.lt) hg hn hi c0 c1).mono fun e w' ⟨v, h1, h2, h3, h4⟩ => ⟨v, h1, h2, h3, hb.trans (h4.mono hb.size)⟩
/-- Φ holds of none and of every node whose children it holds of, and goes on holding while no block but g changes. -/
structure Closed (g : Nat) (Φ : World → Value → Prop) : Prop where
  ext : ∀ w w' v, Φ w v → Ext g w w' → Φ w' v
  nil : ∀ w, Φ w .nilIface
  num : ∀ w b, b ≠ g → w.cell? ⟨b, 0, none⟩ = some (.float .f64 0) → Φ w (.iface 100 (.pointer (some ⟨b, 0, none⟩)))
  str : ∀ w b, b ≠ g → w.cell? ⟨b, 0, none⟩ = some (.slice none 0 0) → Φ w (.iface 104 (.pointer (some ⟨b, 0, none⟩)))
  boo : ∀ w b f, b ≠ g → w.cell? ⟨b, 0, none⟩ = some (.bool f) → Φ w (.iface 108 (.pointer (some ⟨b, 0, none⟩)))
  nul : ∀ w b, b ≠ g → Φ w (.iface 111 (.pointer (some ⟨b, 0, none⟩)))
  und : ∀ w b, b ≠ g → Φ w (.iface 114 (.pointer (some ⟨b, 0, none⟩)))
  big : ∀ w b s, b ≠ g → (s = ⟨#[48]⟩ ∨ s = ⟨#[48, 120, 48]⟩) → w.cell? ⟨b, 0, none⟩ = some (.string s) → Φ w (.iface 116 (.pointer (some ⟨b, 0, none⟩)))
  un : ∀ w b v op, b ≠ g → 0 ≤ op → op ≤ 255 → IsI v → Φ w v → w.cell? ⟨b, 0, none⟩ = some (v) → w.cell? ⟨b, 1, none⟩ = some (.int .i32 0) → w.cell? ⟨b, 2, none⟩ = some (.int .u8 op) → Φ w (.iface 119 (.pointer (some ⟨b, 0, none⟩)))
  bin : ∀ w b v v' op, b ≠ g → 0 ≤ op → op ≤ 255 → IsI v → IsI v' → Φ w v → Φ w v' → w.cell? ⟨b, 0, none⟩ = some (v) → w.cell? ⟨b, 1, none⟩ = some (.int .i32 0) → w.cell? ⟨b, 2, none⟩ = some (v') → w.cell? ⟨b, 3, none⟩ = some (.int .i32 0) → w.cell? ⟨b, 4, none⟩ = some (.int .u8 op) → Φ w (.iface 66 (.pointer (some ⟨b, 0, none⟩)))
  ifn : ∀ w b v v' v'', b ≠ g → IsI v → IsI v' → IsI v'' → Φ w v → Φ w v' → Φ w v'' → w.cell? ⟨b, 0, none⟩ = some (v) → w.cell? ⟨b, 1, none⟩ = some (.int .i32 0) → w.cell? ⟨b, 2, none⟩ = some (v') → w.cell? ⟨b, 3, none⟩ = some (.int .i32 0) → w.cell? ⟨b, 4, none⟩ = some (v'') → w.cell? ⟨b, 5, none⟩ = some (.int .i32 0) → Φ w (.iface 123 (.pointer (some ⟨b, 0, none⟩)))
  ann : ∀ w b v, b ≠ g → IsI v → Φ w v → w.cell? ⟨b, 0, none⟩ = some (v) → w.cell? ⟨b, 1, none⟩ = some (.int .i32 0) → Φ w (.iface 126 (.pointer (some ⟨b, 0, none⟩)))
  enm : ∀ w b v, b ≠ g → IsI v → Φ w v → w.cell? ⟨b, 0, none⟩ = some (v) → w.cell? ⟨b, 1, none⟩ = some (.int .i32 0) → Φ w (.iface 130 (.pointer (some ⟨b, 0, none⟩)))
  tmp : ∀ w b v, b ≠ g → IsI v → Φ w v → w.cell? ⟨b, 0, none⟩ = some (v) → w.cell? ⟨b, 1, none⟩ = some (.int .i32 0) → Φ w (.iface 133 (.pointer (some ⟨b, 0, none⟩)))
  oth : ∀ w b t, b ≠ g → (t = 137 ∨ t = 141 ∨ t = 144 ∨ t = 156 ∨ t = 159 ∨ t = 47) → Φ w (.iface t (.pointer (some ⟨b, 0, none⟩)))
theorem made2 (a b : Value) (n j : Nat) (h : j < n) : (madeCells #[a, b] (n * 2))[j * 2 + 1]? = some b := by
  have e : (j * 2 + 1) % 2 = 1 := by omega
  have l : j * 2 + 1 < n * 2 := by omega
  simp [madeCells, e, l]
theorem goodStep {g n q : Nat} {Φ : World → Value → Prop} {W W2 : World} {cs : Array Value} (hC : Closed g Φ) (hG : Good Φ W cs n (q + 1)) (hq : q < n) (v : Value) (hv : IsI v) (hΦ : Φ W2 v) (he : Ext g W W2) : Good Φ W2 (cs.setIfInBounds (q * 2) v) n q := by
  obtain ⟨h1, h2, h3⟩ := hG
  refine ⟨by simp [h1], fun j hj => by rw [Array.getElem?_setIfInBounds_ne (by omega)]; exact h2 j hj, fun j hj hn => ?_⟩
  by_cases e : j = q
  · subst e
    exact ⟨v, Array.getElem?_setIfInBounds_self_of_lt (by omega), hv, hΦ⟩
  · obtain ⟨u, hu, hI, hu2⟩ := h3 j (by omega) hn
    exact ⟨u, by rw [Array.getElem?_setIfInBounds_ne (by omega)]; exact hu, hI, hC.ext _ _ _ hu2 he⟩
def BR (Φ : World → Value → Prop) (w : World) (n : Nat) (i : Value) (wr : World) : Prop := ∃ (j : Nat) (cs : Array Value), j ≤ n ∧ i = .int .i64 ((j : Int) - 1) ∧ Hid (At wr w.heap.size 32 cs) ∧ Hid (Good Φ wr cs n j) ∧ Hid (Below w.heap.size w wr)
def BuP (Φ : World → Value → Prop) (n : Nat) (w : World) (e : Ending) (w' : World) : Prop := ∃ cs, e = .returned (.slice (some ⟨w.heap.size, 0, none⟩) n n) ∧ At w' w.heap.size 32 cs ∧ Good Φ w' cs n 0 ∧ Below w.heap.size w w'

set_option maxRecDepth 100000 in
set_option maxHeartbeats 16000000 in
theorem build (Φ : World → Value → Prop) (a : Option Addr) (n c : Nat) (w : World) (hC : Closed w.heap.size Φ) (h : IsRecs w a n c NSig) (hn : n ≤ 1048576) : Calls Try.prog 10 #[.slice a n c] w (BuP Φ n w) := by
  have HR := Lib.hid h
  have hmk := made (P := Try.prog) (t := 25) (e := 32) (z := .agg #[.nilIface, .int .i32 0]) (sz := 2) (by_ := 24) Try.underlying25 (by kernel_rfl) w n (by omega) (by omega)
  have CL := Lib.hid hC
  clear h hC
  go_enter Try.func10, Try.ntmps10
  go_wp2_with fail
  clear hmk
  go_loopw [5] (fun i wr => BR Φ w n i wr) (fun i _ => (intOf i + 1).toNat)
  case atStart => exact ⟨n, _, by omega, rfl, Lib.hid (At.new _ _ _), Lib.hid ⟨by simp [size_madeCells], fun j hj => made2 _ _ _ _ hj, fun j h1 h2 => absurd h1 (by omega)⟩, Lib.hid ((Below.refl _ _).alloc (Nat.le_refl _) _)⟩
  case round =>
    obtain ⟨j, cs, hj, rfl, AT, HG, HB⟩ := hrel
    by_cases hj0 : j = 0
    · subst hj0
      go_wp2_with fail
      go_ret
      exact ⟨cs, rfl, AT.out, HG.out, HB.out⟩
    · obtain ⟨q, rfl⟩ : ∃ q, j = q + 1 := ⟨j - 1, by omega⟩
      have hq : q < n := by omega
      obtain ⟨B, off, k, op, f, ch, x, y, z, hx, ⟨h0, h1, h2, h3, h4, h5, h6⟩, k0, k1, op0, op1, ch0, ch1, wx, wy, wz⟩ := IsRecs.at (HR.out.below HB.out) hq
      cases hx
      have qi : ((q + 1 : Nat) : Int) - 1 = (q : Int) := by omega
      rw [qi]
      have q0 : (0 : Int) ≤ (q : Int) := Int.natCast_nonneg _
      have q1 : (q : Int) < (n : Int) := by omega
      have lB : B < wr.heap.size := World.block_lt_of_cell? _ _ h0
      have lg : w.heap.size < wr.heap.size := AT.out.lt
      have lg1 : w.heap.size < wr.heap.size + 1 := by omega
      have gz := HG.out.1
      obtain ⟨u0, hu0⟩ : ∃ u, cs[q * 2]? = some u := ⟨_, Array.getElem?_eq_getElem (by omega)⟩
      have d0 : wr.cell? ⟨w.heap.size, q * 2, none⟩ = some u0 := by rw [AT.out.cell]; exact hu0
      have df := AT.out.frozen (q * 2)
      have HU := Lib.hid hu0
      clear gz hu0
      by_cases e0 : k = 0
      · subst e0
        as_aux_lemma =>
          go_wp2_with fail
          go_roundw
          case rel => exact ⟨q, _, by omega, by go_num, Lib.hid (At.alloc (At.alloc (AT.out.set (q * 2) (.iface 100 (.pointer (some ⟨wr.heap.size + 1, 0, none⟩)))) _) _), Lib.hid (goodStep CL.out HG.out hq _ (.inr ⟨_, _, rfl⟩) (CL.out.num _ _ (by have := AT.out.lt; omega) (by simp [go_sem])) (by repeat (first | with_reducible exact Ext.refl _ _ | (with_reducible refine Ext.alloc ?_ _) | (with_reducible refine Ext.set ?_ _ _) | (with_reducible refine Ext.drew ?_)))), Lib.hid (((HB.out.setCell (Nat.le_refl _) _).alloc (by have := HB.out.size; simp; omega) _).alloc (by have := HB.out.size; simp; omega) _)⟩
          case measure => first | (simp [intOf]; done) | (simp [intOf]; omega)
      by_cases e1 : k = 1
      · subst e1
        as_aux_lemma =>
          go_wp2_with fail
          go_roundw
          case rel => exact ⟨q, _, by omega, by go_num, Lib.hid (At.alloc (At.alloc (AT.out.set (q * 2) (.iface 104 (.pointer (some ⟨wr.heap.size + 1, 0, none⟩)))) _) _), Lib.hid (goodStep CL.out HG.out hq _ (.inr ⟨_, _, rfl⟩) (CL.out.str _ _ (by have := AT.out.lt; omega) (by simp [go_sem])) (by repeat (first | with_reducible exact Ext.refl _ _ | (with_reducible refine Ext.alloc ?_ _) | (with_reducible refine Ext.set ?_ _ _) | (with_reducible refine Ext.drew ?_)))), Lib.hid (((HB.out.setCell (Nat.le_refl _) _).alloc (by have := HB.out.size; simp; omega) _).alloc (by have := HB.out.size; simp; omega) _)⟩
          case measure => first | (simp [intOf]; done) | (simp [intOf]; omega)
      by_cases e2 : k = 2
      · subst e2
        as_aux_lemma =>
          go_wp2_with fail
          go_roundw
          case rel => exact ⟨q, _, by omega, by go_num, Lib.hid (At.alloc (At.alloc (AT.out.set (q * 2) (.iface 108 (.pointer (some ⟨wr.heap.size + 1, 0, none⟩)))) _) _), Lib.hid (goodStep CL.out HG.out hq _ (.inr ⟨_, _, rfl⟩) (CL.out.boo _ _ f (by have := AT.out.lt; omega) (by simp [go_sem])) (by repeat (first | with_reducible exact Ext.refl _ _ | (with_reducible refine Ext.alloc ?_ _) | (with_reducible refine Ext.set ?_ _ _) | (with_reducible refine Ext.drew ?_)))), Lib.hid (((HB.out.setCell (Nat.le_refl _) _).alloc (by have := HB.out.size; simp; omega) _).alloc (by have := HB.out.size; simp; omega) _)⟩
          case measure => first | (simp [intOf]; done) | (simp [intOf]; omega)
      by_cases e3 : k = 3
      · subst e3
        as_aux_lemma =>
          go_wp2_with fail
          go_roundw
          case rel => exact ⟨q, _, by omega, by go_num, Lib.hid (At.alloc (At.alloc (AT.out.set (q * 2) (.iface 111 (.pointer (some ⟨wr.heap.size + 1, 0, none⟩)))) _) _), Lib.hid (goodStep CL.out HG.out hq _ (.inr ⟨_, _, rfl⟩) (CL.out.nul _ _ (by have := AT.out.lt; omega)) (by repeat (first | with_reducible exact Ext.refl _ _ | (with_reducible refine Ext.alloc ?_ _) | (with_reducible refine Ext.set ?_ _ _) | (with_reducible refine Ext.drew ?_)))), Lib.hid (((HB.out.setCell (Nat.le_refl _) _).alloc (by have := HB.out.size; simp; omega) _).alloc (by have := HB.out.size; simp; omega) _)⟩
          case measure => first | (simp [intOf]; done) | (simp [intOf]; omega)
      by_cases e4 : k = 4
      · subst e4
        as_aux_lemma =>
          go_wp2_with fail
          go_roundw
          case rel => exact ⟨q, _, by omega, by go_num, Lib.hid (At.alloc (At.alloc (AT.out.set (q * 2) (.iface 114 (.pointer (some ⟨wr.heap.size + 1, 0, none⟩)))) _) _), Lib.hid (goodStep CL.out HG.out hq _ (.inr ⟨_, _, rfl⟩) (CL.out.und _ _ (by have := AT.out.lt; omega)) (by repeat (first | with_reducible exact Ext.refl _ _ | (with_reducible refine Ext.alloc ?_ _) | (with_reducible refine Ext.set ?_ _ _) | (with_reducible refine Ext.drew ?_)))), Lib.hid (((HB.out.setCell (Nat.le_refl _) _).alloc (by have := HB.out.size; simp; omega) _).alloc (by have := HB.out.size; simp; omega) _)⟩
          case measure => first | (simp [intOf]; done) | (simp [intOf]; omega)
      by_cases e5 : k = 5
      · subst e5
        as_aux_lemma =>
          cases f
          · go_wp2_with fail
            go_roundw
            case rel => exact ⟨q, _, by omega, by go_num, Lib.hid (At.alloc (At.alloc (AT.out.set (q * 2) (.iface 116 (.pointer (some ⟨wr.heap.size + 1, 0, none⟩)))) _) _), Lib.hid (goodStep CL.out HG.out hq _ (.inr ⟨_, _, rfl⟩) (CL.out.big _ _ _ (by have := AT.out.lt; omega) (.inl rfl) (by simp [go_sem])) (by repeat (first | with_reducible exact Ext.refl _ _ | (with_reducible refine Ext.alloc ?_ _) | (with_reducible refine Ext.set ?_ _ _) | (with_reducible refine Ext.drew ?_)))), Lib.hid (((HB.out.setCell (Nat.le_refl _) _).alloc (by have := HB.out.size; simp; omega) _).alloc (by have := HB.out.size; simp; omega) _)⟩
            case measure => first | (simp [intOf]; done) | (simp [intOf]; omega)
          · go_wp2_with fail
            go_roundw
            case rel => exact ⟨q, _, by omega, by go_num, Lib.hid (At.alloc (At.alloc (AT.out.set (q * 2) (.iface 116 (.pointer (some ⟨wr.heap.size + 1, 0, none⟩)))) _) _), Lib.hid (goodStep CL.out HG.out hq _ (.inr ⟨_, _, rfl⟩) (CL.out.big _ _ _ (by have := AT.out.lt; omega) (.inr rfl) (by simp [go_sem])) (by repeat (first | with_reducible exact Ext.refl _ _ | (with_reducible refine Ext.alloc ?_ _) | (with_reducible refine Ext.set ?_ _ _) | (with_reducible refine Ext.drew ?_)))), Lib.hid (((HB.out.setCell (Nat.le_refl _) _).alloc (by have := HB.out.size; simp; omega) _).alloc (by have := HB.out.size; simp; omega) _)⟩
            case measure => first | (simp [intOf]; done) | (simp [intOf]; omega)
      by_cases e9 : k = 9
      · subst e9
        as_aux_lemma =>
          go_wp2_with fail
          obtain ⟨W, hW⟩ : ∃ W, W = wr.alloc (.cells #[.int .u8 9, .int .u8 op, .bool f, .int .u8 ch, .int .i32 x, .int .i32 y, .int .i32 z] 97) := ⟨_, rfl⟩
          rw [← hW]
          have s0 : W.cell? ⟨wr.heap.size, 0, none⟩ = some (.int .u8 9) := by rw [hW]; simp [go_sem]
          have s1 : W.cell? ⟨wr.heap.size, 1, none⟩ = some (.int .u8 op) := by rw [hW]; simp [go_sem]
          have s2 : W.cell? ⟨wr.heap.size, 2, none⟩ = some (.bool f) := by rw [hW]; simp [go_sem]
          have s3 : W.cell? ⟨wr.heap.size, 3, none⟩ = some (.int .u8 ch) := by rw [hW]; simp [go_sem]
          have s4 : W.cell? ⟨wr.heap.size, 4, none⟩ = some (.int .i32 x) := by rw [hW]; simp [go_sem]
          have s5 : W.cell? ⟨wr.heap.size, 5, none⟩ = some (.int .i32 y) := by rw [hW]; simp [go_sem]
          have s6 : W.cell? ⟨wr.heap.size, 6, none⟩ = some (.int .i32 z) := by rw [hW]; simp [go_sem]
          have AW := Lib.hid (show At W w.heap.size 32 cs from by rw [hW]; exact At.alloc AT.out _)
          have GW := Lib.hid (show Good Φ W cs n (q + 1) from ⟨HG.out.1, HG.out.2.1, fun j h1 h2 => by obtain ⟨v, a1, a2, a3⟩ := HG.out.2.2 j h1 h2; exact ⟨v, a1, a2, CL.out.ext _ _ _ a3 (by rw [hW]; exact Ext.of ((Below.refl _ _).alloc (Nat.le_refl _) _))⟩⟩)
          have BW := Lib.hid (show Below w.heap.size w W from by rw [hW]; exact HB.out.alloc (by have := HB.out.size; omega) _)
          have zW : wr.heap.size < W.heap.size := by rw [hW]; simp
          have zg : w.heap.size < wr.heap.size := AT.out.lt
          clear hW h0 h1 h2 h3 h4 h5 h6 AT HG HB
          have HCx := Lib.hid (fun (W' : World) (hb : Below W.heap.size W W') => childB Φ w.heap.size n q x cs W W' (CL.out.nil W) AW.out GW.out hn hq wx.1 wx.2 hb)
          clear HR
          refine (HCx.out W (Below.refl _ _)).mono ?_
          rintro e w1 ⟨v, rfl, hI, hΦ, hb⟩
          have BL := Lib.hid hb
          have zb := hb.size
          have P1 := Lib.hid hΦ
          have I1 := Lib.hid hI
          clear hb hΦ s0 s1 s2 s3 s4 s5 s6
          have EX1 := Lib.hid (show ∀ (o : Obj) (i : Nat) (u : Value), Ext w.heap.size W ((w1.setCell ⟨w.heap.size, i, none⟩ u).alloc o) from fun o i u => (Ext.of BL.out).trans (Ext.alloc (Ext.set (Ext.refl _ _) _ _) _))
          rcases hI with rfl | ⟨tt, bb, rfl⟩
          all_goals
            have e0 : w1.cell? ⟨w.heap.size, q * 2, none⟩ = some u0 := by rw [(At.below AW.out BL.out AW.out.lt).cell]; exact HU.out
            have ef := (At.below AW.out BL.out AW.out.lt).frozen (q * 2)
            have el := (At.below AW.out BL.out AW.out.lt).lt
            go_wp2_with fail
            go_roundw
            case rel => exact ⟨q, _, by omega, by go_num, Lib.hid (At.alloc ((At.below AW.out BL.out AW.out.lt).set (q * 2) (.iface 126 (.pointer (some ⟨w1.heap.size, 0, none⟩)))) _), Lib.hid (goodStep CL.out GW.out hq _ (.inr ⟨_, _, rfl⟩) (CL.out.ann _ _ _ (by omega) I1.out (CL.out.ext _ _ _ P1.out (EX1.out _ _ _)) (by simp [go_sem]) (by simp [go_sem])) ((Ext.of BL.out).trans (Ext.alloc (Ext.set (Ext.refl _ _) _ _) _))), Lib.hid ((((BW.out.trans (BL.out.mono (by have := BW.out.size; omega))).setCell (Nat.le_refl _) _).alloc (by have := BL.out.size; have := BW.out.size; simp; omega) _))⟩
            case measure => first | (simp [intOf]; done) | (simp [intOf]; omega)
      by_cases e10 : k = 10
      · subst e10
        as_aux_lemma =>
          go_wp2_with fail
          obtain ⟨W, hW⟩ : ∃ W, W = wr.alloc (.cells #[.int .u8 10, .int .u8 op, .bool f, .int .u8 ch, .int .i32 x, .int .i32 y, .int .i32 z] 97) := ⟨_, rfl⟩
          rw [← hW]
          have s0 : W.cell? ⟨wr.heap.size, 0, none⟩ = some (.int .u8 10) := by rw [hW]; simp [go_sem]
          have s1 : W.cell? ⟨wr.heap.size, 1, none⟩ = some (.int .u8 op) := by rw [hW]; simp [go_sem]
          have s2 : W.cell? ⟨wr.heap.size, 2, none⟩ = some (.bool f) := by rw [hW]; simp [go_sem]
          have s3 : W.cell? ⟨wr.heap.size, 3, none⟩ = some (.int .u8 ch) := by rw [hW]; simp [go_sem]
          have s4 : W.cell? ⟨wr.heap.size, 4, none⟩ = some (.int .i32 x) := by rw [hW]; simp [go_sem]
          have s5 : W.cell? ⟨wr.heap.size, 5, none⟩ = some (.int .i32 y) := by rw [hW]; simp [go_sem]
          have s6 : W.cell? ⟨wr.heap.size, 6, none⟩ = some (.int .i32 z) := by rw [hW]; simp [go_sem]
          have AW := Lib.hid (show At W w.heap.size 32 cs from by rw [hW]; exact At.alloc AT.out _)
          have GW := Lib.hid (show Good Φ W cs n (q + 1) from ⟨HG.out.1, HG.out.2.1, fun j h1 h2 => by obtain ⟨v, a1, a2, a3⟩ := HG.out.2.2 j h1 h2; exact ⟨v, a1, a2, CL.out.ext _ _ _ a3 (by rw [hW]; exact Ext.of ((Below.refl _ _).alloc (Nat.le_refl _) _))⟩⟩)
          have BW := Lib.hid (show Below w.heap.size w W from by rw [hW]; exact HB.out.alloc (by have := HB.out.size; omega) _)
          have zW : wr.heap.size < W.heap.size := by rw [hW]; simp
          have zg : w.heap.size < wr.heap.size := AT.out.lt
          clear hW h0 h1 h2 h3 h4 h5 h6 AT HG HB
          have HCx := Lib.hid (fun (W' : World) (hb : Below W.heap.size W W') => childB Φ w.heap.size n q x cs W W' (CL.out.nil W) AW.out GW.out hn hq wx.1 wx.2 hb)
          clear HR
          refine (HCx.out W (Below.refl _ _)).mono ?_
          rintro e w1 ⟨v, rfl, hI, hΦ, hb⟩
          have BL := Lib.hid hb
          have zb := hb.size
          have P1 := Lib.hid hΦ
          have I1 := Lib.hid hI
          clear hb hΦ s0 s1 s2 s3 s4 s5 s6
          have EX1 := Lib.hid (show ∀ (o : Obj) (i : Nat) (u : Value), Ext w.heap.size W ((w1.setCell ⟨w.heap.size, i, none⟩ u).alloc o) from fun o i u => (Ext.of BL.out).trans (Ext.alloc (Ext.set (Ext.refl _ _) _ _) _))
          rcases hI with rfl | ⟨tt, bb, rfl⟩
          all_goals
            have e0 : w1.cell? ⟨w.heap.size, q * 2, none⟩ = some u0 := by rw [(At.below AW.out BL.out AW.out.lt).cell]; exact HU.out
            have ef := (At.below AW.out BL.out AW.out.lt).frozen (q * 2)
            have el := (At.below AW.out BL.out AW.out.lt).lt
            go_wp2_with fail
            go_roundw
            case rel => exact ⟨q, _, by omega, by go_num, Lib.hid (At.alloc ((At.below AW.out BL.out AW.out.lt).set (q * 2) (.iface 130 (.pointer (some ⟨w1.heap.size, 0, none⟩)))) _), Lib.hid (goodStep CL.out GW.out hq _ (.inr ⟨_, _, rfl⟩) (CL.out.enm _ _ _ (by omega) I1.out (CL.out.ext _ _ _ P1.out (EX1.out _ _ _)) (by simp [go_sem]) (by simp [go_sem])) ((Ext.of BL.out).trans (Ext.alloc (Ext.set (Ext.refl _ _) _ _) _))), Lib.hid ((((BW.out.trans (BL.out.mono (by have := BW.out.size; omega))).setCell (Nat.le_refl _) _).alloc (by have := BL.out.size; have := BW.out.size; simp; omega) _))⟩
            case measure => first | (simp [intOf]; done) | (simp [intOf]; omega)
      by_cases e11 : k = 11
      · subst e11
        as_aux_lemma =>
          go_wp2_with fail
          obtain ⟨W, hW⟩ : ∃ W, W = wr.alloc (.cells #[.int .u8 11, .int .u8 op, .bool f, .int .u8 ch, .int .i32 x, .int .i32 y, .int .i32 z] 97) := ⟨_, rfl⟩
          rw [← hW]
          have s0 : W.cell? ⟨wr.heap.size, 0, none⟩ = some (.int .u8 11) := by rw [hW]; simp [go_sem]
          have s1 : W.cell? ⟨wr.heap.size, 1, none⟩ = some (.int .u8 op) := by rw [hW]; simp [go_sem]
          have s2 : W.cell? ⟨wr.heap.size, 2, none⟩ = some (.bool f) := by rw [hW]; simp [go_sem]
          have s3 : W.cell? ⟨wr.heap.size, 3, none⟩ = some (.int .u8 ch) := by rw [hW]; simp [go_sem]
          have s4 : W.cell? ⟨wr.heap.size, 4, none⟩ = some (.int .i32 x) := by rw [hW]; simp [go_sem]
          have s5 : W.cell? ⟨wr.heap.size, 5, none⟩ = some (.int .i32 y) := by rw [hW]; simp [go_sem]
          have s6 : W.cell? ⟨wr.heap.size, 6, none⟩ = some (.int .i32 z) := by rw [hW]; simp [go_sem]
          have AW := Lib.hid (show At W w.heap.size 32 cs from by rw [hW]; exact At.alloc AT.out _)
          have GW := Lib.hid (show Good Φ W cs n (q + 1) from ⟨HG.out.1, HG.out.2.1, fun j h1 h2 => by obtain ⟨v, a1, a2, a3⟩ := HG.out.2.2 j h1 h2; exact ⟨v, a1, a2, CL.out.ext _ _ _ a3 (by rw [hW]; exact Ext.of ((Below.refl _ _).alloc (Nat.le_refl _) _))⟩⟩)
          have BW := Lib.hid (show Below w.heap.size w W from by rw [hW]; exact HB.out.alloc (by have := HB.out.size; omega) _)
          have zW : wr.heap.size < W.heap.size := by rw [hW]; simp
          have zg : w.heap.size < wr.heap.size := AT.out.lt
          clear hW h0 h1 h2 h3 h4 h5 h6 AT HG HB
          have HCx := Lib.hid (fun (W' : World) (hb : Below W.heap.size W W') => childB Φ w.heap.size n q x cs W W' (CL.out.nil W) AW.out GW.out hn hq wx.1 wx.2 hb)
          clear HR
          refine (HCx.out W (Below.refl _ _)).mono ?_
          rintro e w1 ⟨v, rfl, hI, hΦ, hb⟩
          have BL := Lib.hid hb
          have zb := hb.size
          have P1 := Lib.hid hΦ
          have I1 := Lib.hid hI
          clear hb hΦ s0 s1 s2 s3 s4 s5 s6
          have EX1 := Lib.hid (show ∀ (o : Obj) (i : Nat) (u : Value), Ext w.heap.size W ((w1.setCell ⟨w.heap.size, i, none⟩ u).alloc o) from fun o i u => (Ext.of BL.out).trans (Ext.alloc (Ext.set (Ext.refl _ _) _ _) _))
          rcases hI with rfl | ⟨tt, bb, rfl⟩
          all_goals
            have e0 : w1.cell? ⟨w.heap.size, q * 2, none⟩ = some u0 := by rw [(At.below AW.out BL.out AW.out.lt).cell]; exact HU.out
            have ef := (At.below AW.out BL.out AW.out.lt).frozen (q * 2)
            have el := (At.below AW.out BL.out AW.out.lt).lt
            go_wp2_with fail
            go_roundw
            case rel => exact ⟨q, _, by omega, by go_num, Lib.hid (At.alloc ((At.below AW.out BL.out AW.out.lt).set (q * 2) (.iface 133 (.pointer (some ⟨w1.heap.size, 0, none⟩)))) _), Lib.hid (goodStep CL.out GW.out hq _ (.inr ⟨_, _, rfl⟩) (CL.out.tmp _ _ _ (by omega) I1.out (CL.out.ext _ _ _ P1.out (EX1.out _ _ _)) (by simp [go_sem]) (by simp [go_sem])) ((Ext.of BL.out).trans (Ext.alloc (Ext.set (Ext.refl _ _) _ _) _))), Lib.hid ((((BW.out.trans (BL.out.mono (by have := BW.out.size; omega))).setCell (Nat.le_refl _) _).alloc (by have := BL.out.size; have := BW.out.size; simp; omega) _))⟩
            case measure => first | (simp [intOf]; done) | (simp [intOf]; omega)
      by_cases e6 : k = 6
      · subst e6
        as_aux_lemma =>
          go_wp2_with fail
          obtain ⟨W, hW⟩ : ∃ W, W = wr.alloc (.cells #[.int .u8 6, .int .u8 op, .bool f, .int .u8 ch, .int .i32 x, .int .i32 y, .int .i32 z] 97) := ⟨_, rfl⟩
          rw [← hW]
          have s0 : W.cell? ⟨wr.heap.size, 0, none⟩ = some (.int .u8 6) := by rw [hW]; simp [go_sem]
          have s1 : W.cell? ⟨wr.heap.size, 1, none⟩ = some (.int .u8 op) := by rw [hW]; simp [go_sem]
          have s2 : W.cell? ⟨wr.heap.size, 2, none⟩ = some (.bool f) := by rw [hW]; simp [go_sem]
          have s3 : W.cell? ⟨wr.heap.size, 3, none⟩ = some (.int .u8 ch) := by rw [hW]; simp [go_sem]
          have s4 : W.cell? ⟨wr.heap.size, 4, none⟩ = some (.int .i32 x) := by rw [hW]; simp [go_sem]
          have s5 : W.cell? ⟨wr.heap.size, 5, none⟩ = some (.int .i32 y) := by rw [hW]; simp [go_sem]
          have s6 : W.cell? ⟨wr.heap.size, 6, none⟩ = some (.int .i32 z) := by rw [hW]; simp [go_sem]
          have AW := Lib.hid (show At W w.heap.size 32 cs from by rw [hW]; exact At.alloc AT.out _)
          have GW := Lib.hid (show Good Φ W cs n (q + 1) from ⟨HG.out.1, HG.out.2.1, fun j h1 h2 => by obtain ⟨v, a1, a2, a3⟩ := HG.out.2.2 j h1 h2; exact ⟨v, a1, a2, CL.out.ext _ _ _ a3 (by rw [hW]; exact Ext.of ((Below.refl _ _).alloc (Nat.le_refl _) _))⟩⟩)
          have BW := Lib.hid (show Below w.heap.size w W from by rw [hW]; exact HB.out.alloc (by have := HB.out.size; omega) _)
          have zW : wr.heap.size < W.heap.size := by rw [hW]; simp
          have zg : w.heap.size < wr.heap.size := AT.out.lt
          clear hW h0 h1 h2 h3 h4 h5 h6 AT HG HB
          have HCx := Lib.hid (fun (W' : World) (hb : Below W.heap.size W W') => childB Φ w.heap.size n q x cs W W' (CL.out.nil W) AW.out GW.out hn hq wx.1 wx.2 hb)
          clear HR
          go_region_held3 (fun w' => w'.cell? ⟨wr.heap.size, 1, none⟩ = some (.int .u8 op) ∧ w'.cell? ⟨wr.heap.size, 4, none⟩ = some (.int .i32 x)) (repeat' (first | (refine And.intro ?_ ?_) | assumption | apply kAlloc | apply kDrew | (refine kSet ?_ (by omega)))) (first | (go_at_call 26; (with_reducible refine Calls.mono (HCx.out _ ?hb) ?_); (case hb => (first | with_reducible exact Below.refl _ _ | with_reducible assumption | (with_reducible refine Below.drew ?_; first | with_reducible exact Below.refl _ _ | with_reducible assumption))); rintro e wx1 ⟨vx, rfl, hIx, hΦx, hbx⟩; have mx1 : wx1.cell? ⟨wr.heap.size, 1, none⟩ = some (.int .u8 op) := kept hbx s1; have mx4 : wx1.cell? ⟨wr.heap.size, 4, none⟩ = some (.int .i32 x) := kept hbx s4; have e0x : wx1.cell? ⟨w.heap.size, q * 2, none⟩ = some u0 := (by rw [(At.below AW.out hbx AW.out.lt).cell]; exact HU.out); have efx := (At.below AW.out hbx AW.out.lt).frozen (q * 2); have elx := (At.below AW.out hbx AW.out.lt).lt))
          all_goals
            go_wp2_with fail
            go_roundw
            case rel => first | exact ⟨q, _, by omega, by go_num, Lib.hid (At.alloc ((At.below AW.out hbx AW.out.lt).set (q * 2) (.iface 119 (.pointer (some ⟨wx1.heap.size, 0, none⟩)))) _), Lib.hid (goodStep CL.out GW.out hq _ (.inr ⟨_, _, rfl⟩) (CL.out.un _ _ vx op (by omega) op0 op1 hIx (CL.out.ext _ _ _ hΦx ((Ext.of hbx).trans (Ext.alloc (Ext.set (Ext.refl _ _) _ _) _))) (by simp [go_sem]) (by simp [go_sem]) (by simp [go_sem])) ((Ext.of hbx).trans (Ext.alloc (Ext.set (Ext.refl _ _) _ _) _))), Lib.hid ((((BW.out.trans (hbx.mono (by have := BW.out.size; omega))).setCell (Nat.le_refl _) _).alloc (by have := hbx.size; have := BW.out.size; simp; omega) _))⟩
            case measure => first | (simp [intOf]; done) | (simp [intOf]; omega)
      by_cases e7 : k = 7
      · subst e7
        as_aux_lemma =>
          go_wp2_with fail
          obtain ⟨W, hW⟩ : ∃ W, W = wr.alloc (.cells #[.int .u8 7, .int .u8 op, .bool f, .int .u8 ch, .int .i32 x, .int .i32 y, .int .i32 z] 97) := ⟨_, rfl⟩
          rw [← hW]
          have s0 : W.cell? ⟨wr.heap.size, 0, none⟩ = some (.int .u8 7) := by rw [hW]; simp [go_sem]
          have s1 : W.cell? ⟨wr.heap.size, 1, none⟩ = some (.int .u8 op) := by rw [hW]; simp [go_sem]
          have s2 : W.cell? ⟨wr.heap.size, 2, none⟩ = some (.bool f) := by rw [hW]; simp [go_sem]
          have s3 : W.cell? ⟨wr.heap.size, 3, none⟩ = some (.int .u8 ch) := by rw [hW]; simp [go_sem]
          have s4 : W.cell? ⟨wr.heap.size, 4, none⟩ = some (.int .i32 x) := by rw [hW]; simp [go_sem]
          have s5 : W.cell? ⟨wr.heap.size, 5, none⟩ = some (.int .i32 y) := by rw [hW]; simp [go_sem]
          have s6 : W.cell? ⟨wr.heap.size, 6, none⟩ = some (.int .i32 z) := by rw [hW]; simp [go_sem]
          have AW := Lib.hid (show At W w.heap.size 32 cs from by rw [hW]; exact At.alloc AT.out _)
          have GW := Lib.hid (show Good Φ W cs n (q + 1) from ⟨HG.out.1, HG.out.2.1, fun j h1 h2 => by obtain ⟨v, a1, a2, a3⟩ := HG.out.2.2 j h1 h2; exact ⟨v, a1, a2, CL.out.ext _ _ _ a3 (by rw [hW]; exact Ext.of ((Below.refl _ _).alloc (Nat.le_refl _) _))⟩⟩)
          have BW := Lib.hid (show Below w.heap.size w W from by rw [hW]; exact HB.out.alloc (by have := HB.out.size; omega) _)
          have zW : wr.heap.size < W.heap.size := by rw [hW]; simp
          have zg : w.heap.size < wr.heap.size := AT.out.lt
          clear hW h0 h1 h2 h3 h4 h5 h6 AT HG HB
          have HCx := Lib.hid (fun (W' : World) (hb : Below W.heap.size W W') => childB Φ w.heap.size n q x cs W W' (CL.out.nil W) AW.out GW.out hn hq wx.1 wx.2 hb)
          have HCy := Lib.hid (fun (W' : World) (hb : Below W.heap.size W W') => childB Φ w.heap.size n q y cs W W' (CL.out.nil W) AW.out GW.out hn hq wy.1 wy.2 hb)
          clear HR
          go_region_held3 (fun w' => w'.cell? ⟨wr.heap.size, 1, none⟩ = some (.int .u8 op) ∧ w'.cell? ⟨wr.heap.size, 4, none⟩ = some (.int .i32 x) ∧ w'.cell? ⟨wr.heap.size, 5, none⟩ = some (.int .i32 y)) (repeat' (first | (refine And.intro ?_ ?_) | assumption | apply kAlloc | apply kDrew | (refine kSet ?_ (by omega)))) (first | (go_at_call 26; (with_reducible refine Calls.mono (HCx.out _ ?hb) ?_); (case hb => (first | with_reducible exact Below.refl _ _ | with_reducible assumption | (with_reducible refine Below.drew ?_; first | with_reducible exact Below.refl _ _ | with_reducible assumption))); rintro e wx1 ⟨vx, rfl, hIx, hΦx, hbx⟩; have mx1 : wx1.cell? ⟨wr.heap.size, 1, none⟩ = some (.int .u8 op) := kept hbx s1; have mx4 : wx1.cell? ⟨wr.heap.size, 4, none⟩ = some (.int .i32 x) := kept hbx s4; have mx5 : wx1.cell? ⟨wr.heap.size, 5, none⟩ = some (.int .i32 y) := kept hbx s5; have e0x : wx1.cell? ⟨w.heap.size, q * 2, none⟩ = some u0 := (by rw [(At.below AW.out hbx AW.out.lt).cell]; exact HU.out); have efx := (At.below AW.out hbx AW.out.lt).frozen (q * 2); have elx := (At.below AW.out hbx AW.out.lt).lt) | (go_at_call 26; (with_reducible refine Calls.mono (HCy.out _ ?hb) ?_); (case hb => (first | with_reducible exact Below.refl _ _ | with_reducible assumption | (with_reducible refine Below.drew ?_; first | with_reducible exact Below.refl _ _ | with_reducible assumption))); rintro e wy1 ⟨vy, rfl, hIy, hΦy, hby⟩; have my1 : wy1.cell? ⟨wr.heap.size, 1, none⟩ = some (.int .u8 op) := kept hby s1; have my4 : wy1.cell? ⟨wr.heap.size, 4, none⟩ = some (.int .i32 x) := kept hby s4; have my5 : wy1.cell? ⟨wr.heap.size, 5, none⟩ = some (.int .i32 y) := kept hby s5; have e0y : wy1.cell? ⟨w.heap.size, q * 2, none⟩ = some u0 := (by rw [(At.below AW.out hby AW.out.lt).cell]; exact HU.out); have efy := (At.below AW.out hby AW.out.lt).frozen (q * 2); have ely := (At.below AW.out hby AW.out.lt).lt))
          all_goals
            go_wp2_with fail
            go_roundw
            case rel => first | exact ⟨q, _, by omega, by go_num, Lib.hid (At.alloc ((At.below AW.out hbx AW.out.lt).set (q * 2) (.iface 66 (.pointer (some ⟨wx1.heap.size, 0, none⟩)))) _), Lib.hid (goodStep CL.out GW.out hq _ (.inr ⟨_, _, rfl⟩) (CL.out.bin _ _ vx vy op (by omega) op0 op1 hIx hIy (CL.out.ext _ _ _ hΦx ((Ext.of hbx).trans (Ext.alloc (Ext.set (Ext.refl _ _) _ _) _))) (CL.out.ext _ _ _ hΦy ((Ext.of hbx).trans (Ext.alloc (Ext.set (Ext.refl _ _) _ _) _))) (by simp [go_sem]) (by simp [go_sem]) (by simp [go_sem]) (by simp [go_sem]) (by simp [go_sem])) ((Ext.of hbx).trans (Ext.alloc (Ext.set (Ext.refl _ _) _ _) _))), Lib.hid ((((BW.out.trans (hbx.mono (by have := BW.out.size; omega))).setCell (Nat.le_refl _) _).alloc (by have := hbx.size; have := BW.out.size; simp; omega) _))⟩ | exact ⟨q, _, by omega, by go_num, Lib.hid (At.alloc ((At.below AW.out hby AW.out.lt).set (q * 2) (.iface 66 (.pointer (some ⟨wy1.heap.size, 0, none⟩)))) _), Lib.hid (goodStep CL.out GW.out hq _ (.inr ⟨_, _, rfl⟩) (CL.out.bin _ _ vx vy op (by omega) op0 op1 hIx hIy (CL.out.ext _ _ _ hΦx ((Ext.of hby).trans (Ext.alloc (Ext.set (Ext.refl _ _) _ _) _))) (CL.out.ext _ _ _ hΦy ((Ext.of hby).trans (Ext.alloc (Ext.set (Ext.refl _ _) _ _) _))) (by simp [go_sem]) (by simp [go_sem]) (by simp [go_sem]) (by simp [go_sem]) (by simp [go_sem])) ((Ext.of hby).trans (Ext.alloc (Ext.set (Ext.refl _ _) _ _) _))), Lib.hid ((((BW.out.trans (hby.mono (by have := BW.out.size; omega))).setCell (Nat.le_refl _) _).alloc (by have := hby.size; have := BW.out.size; simp; omega) _))⟩
            case measure => first | (simp [intOf]; done) | (simp [intOf]; omega)
      by_cases e8 : k = 8
      · subst e8
        as_aux_lemma =>
          go_wp2_with fail
          obtain ⟨W, hW⟩ : ∃ W, W = wr.alloc (.cells #[.int .u8 8, .int .u8 op, .bool f, .int .u8 ch, .int .i32 x, .int .i32 y, .int .i32 z] 97) := ⟨_, rfl⟩
          rw [← hW]
          have s0 : W.cell? ⟨wr.heap.size, 0, none⟩ = some (.int .u8 8) := by rw [hW]; simp [go_sem]
          have s1 : W.cell? ⟨wr.heap.size, 1, none⟩ = some (.int .u8 op) := by rw [hW]; simp [go_sem]
          have s2 : W.cell? ⟨wr.heap.size, 2, none⟩ = some (.bool f) := by rw [hW]; simp [go_sem]
          have s3 : W.cell? ⟨wr.heap.size, 3, none⟩ = some (.int .u8 ch) := by rw [hW]; simp [go_sem]
          have s4 : W.cell? ⟨wr.heap.size, 4, none⟩ = some (.int .i32 x) := by rw [hW]; simp [go_sem]
          have s5 : W.cell? ⟨wr.heap.size, 5, none⟩ = some (.int .i32 y) := by rw [hW]; simp [go_sem]
          have s6 : W.cell? ⟨wr.heap.size, 6, none⟩ = some (.int .i32 z) := by rw [hW]; simp [go_sem]
          have AW := Lib.hid (show At W w.heap.size 32 cs from by rw [hW]; exact At.alloc AT.out _)
          have GW := Lib.hid (show Good Φ W cs n (q + 1) from ⟨HG.out.1, HG.out.2.1, fun j h1 h2 => by obtain ⟨v, a1, a2, a3⟩ := HG.out.2.2 j h1 h2; exact ⟨v, a1, a2, CL.out.ext _ _ _ a3 (by rw [hW]; exact Ext.of ((Below.refl _ _).alloc (Nat.le_refl _) _))⟩⟩)
          have BW := Lib.hid (show Below w.heap.size w W from by rw [hW]; exact HB.out.alloc (by have := HB.out.size; omega) _)
          have zW : wr.heap.size < W.heap.size := by rw [hW]; simp
          have zg : w.heap.size < wr.heap.size := AT.out.lt
          clear hW h0 h1 h2 h3 h4 h5 h6 AT HG HB
          have HCx := Lib.hid (fun (W' : World) (hb : Below W.heap.size W W') => childB Φ w.heap.size n q x cs W W' (CL.out.nil W) AW.out GW.out hn hq wx.1 wx.2 hb)
          have HCy := Lib.hid (fun (W' : World) (hb : Below W.heap.size W W') => childB Φ w.heap.size n q y cs W W' (CL.out.nil W) AW.out GW.out hn hq wy.1 wy.2 hb)
          have HCz := Lib.hid (fun (W' : World) (hb : Below W.heap.size W W') => childB Φ w.heap.size n q z cs W W' (CL.out.nil W) AW.out GW.out hn hq wz.1 wz.2 hb)
          clear HR
          go_region_held3 (fun w' => w'.cell? ⟨wr.heap.size, 4, none⟩ = some (.int .i32 x) ∧ w'.cell? ⟨wr.heap.size, 5, none⟩ = some (.int .i32 y) ∧ w'.cell? ⟨wr.heap.size, 6, none⟩ = some (.int .i32 z)) (repeat' (first | (refine And.intro ?_ ?_) | assumption | apply kAlloc | apply kDrew | (refine kSet ?_ (by omega)))) (first | (go_at_call 26; (with_reducible refine Calls.mono (HCx.out _ ?hb) ?_); (case hb => (first | with_reducible exact Below.refl _ _ | with_reducible assumption | (with_reducible refine Below.drew ?_; first | with_reducible exact Below.refl _ _ | with_reducible assumption))); rintro e wx1 ⟨vx, rfl, hIx, hΦx, hbx⟩; have mx4 : wx1.cell? ⟨wr.heap.size, 4, none⟩ = some (.int .i32 x) := kept hbx s4; have mx5 : wx1.cell? ⟨wr.heap.size, 5, none⟩ = some (.int .i32 y) := kept hbx s5; have mx6 : wx1.cell? ⟨wr.heap.size, 6, none⟩ = some (.int .i32 z) := kept hbx s6; have e0x : wx1.cell? ⟨w.heap.size, q * 2, none⟩ = some u0 := (by rw [(At.below AW.out hbx AW.out.lt).cell]; exact HU.out); have efx := (At.below AW.out hbx AW.out.lt).frozen (q * 2); have elx := (At.below AW.out hbx AW.out.lt).lt) | (go_at_call 26; (with_reducible refine Calls.mono (HCy.out _ ?hb) ?_); (case hb => (first | with_reducible exact Below.refl _ _ | with_reducible assumption | (with_reducible refine Below.drew ?_; first | with_reducible exact Below.refl _ _ | with_reducible assumption))); rintro e wy1 ⟨vy, rfl, hIy, hΦy, hby⟩; have my4 : wy1.cell? ⟨wr.heap.size, 4, none⟩ = some (.int .i32 x) := kept hby s4; have my5 : wy1.cell? ⟨wr.heap.size, 5, none⟩ = some (.int .i32 y) := kept hby s5; have my6 : wy1.cell? ⟨wr.heap.size, 6, none⟩ = some (.int .i32 z) := kept hby s6; have e0y : wy1.cell? ⟨w.heap.size, q * 2, none⟩ = some u0 := (by rw [(At.below AW.out hby AW.out.lt).cell]; exact HU.out); have efy := (At.below AW.out hby AW.out.lt).frozen (q * 2); have ely := (At.below AW.out hby AW.out.lt).lt) | (go_at_call 26; (with_reducible refine Calls.mono (HCz.out _ ?hb) ?_); (case hb => (first | with_reducible exact Below.refl _ _ | with_reducible assumption | (with_reducible refine Below.drew ?_; first | with_reducible exact Below.refl _ _ | with_reducible assumption))); rintro e wz1 ⟨vz, rfl, hIz, hΦz, hbz⟩; have mz4 : wz1.cell? ⟨wr.heap.size, 4, none⟩ = some (.int .i32 x) := kept hbz s4; have mz5 : wz1.cell? ⟨wr.heap.size, 5, none⟩ = some (.int .i32 y) := kept hbz s5; have mz6 : wz1.cell? ⟨wr.heap.size, 6, none⟩ = some (.int .i32 z) := kept hbz s6; have e0z : wz1.cell? ⟨w.heap.size, q * 2, none⟩ = some u0 := (by rw [(At.below AW.out hbz AW.out.lt).cell]; exact HU.out); have efz := (At.below AW.out hbz AW.out.lt).frozen (q * 2); have elz := (At.below AW.out hbz AW.out.lt).lt))
          all_goals
            go_wp2_with fail
            go_roundw
            case rel => first | exact ⟨q, _, by omega, by go_num, Lib.hid (At.alloc ((At.below AW.out hbx AW.out.lt).set (q * 2) (.iface 123 (.pointer (some ⟨wx1.heap.size, 0, none⟩)))) _), Lib.hid (goodStep CL.out GW.out hq _ (.inr ⟨_, _, rfl⟩) (CL.out.ifn _ _ vx vy vz (by omega) hIx hIy hIz (CL.out.ext _ _ _ hΦx ((Ext.of hbx).trans (Ext.alloc (Ext.set (Ext.refl _ _) _ _) _))) (CL.out.ext _ _ _ hΦy ((Ext.of hbx).trans (Ext.alloc (Ext.set (Ext.refl _ _) _ _) _))) (CL.out.ext _ _ _ hΦz ((Ext.of hbx).trans (Ext.alloc (Ext.set (Ext.refl _ _) _ _) _))) (by simp [go_sem]) (by simp [go_sem]) (by simp [go_sem]) (by simp [go_sem]) (by simp [go_sem]) (by simp [go_sem])) ((Ext.of hbx).trans (Ext.alloc (Ext.set (Ext.refl _ _) _ _) _))), Lib.hid ((((BW.out.trans (hbx.mono (by have := BW.out.size; omega))).setCell (Nat.le_refl _) _).alloc (by have := hbx.size; have := BW.out.size; simp; omega) _))⟩ | exact ⟨q, _, by omega, by go_num, Lib.hid (At.alloc ((At.below AW.out hby AW.out.lt).set (q * 2) (.iface 123 (.pointer (some ⟨wy1.heap.size, 0, none⟩)))) _), Lib.hid (goodStep CL.out GW.out hq _ (.inr ⟨_, _, rfl⟩) (CL.out.ifn _ _ vx vy vz (by omega) hIx hIy hIz (CL.out.ext _ _ _ hΦx ((Ext.of hby).trans (Ext.alloc (Ext.set (Ext.refl _ _) _ _) _))) (CL.out.ext _ _ _ hΦy ((Ext.of hby).trans (Ext.alloc (Ext.set (Ext.refl _ _) _ _) _))) (CL.out.ext _ _ _ hΦz ((Ext.of hby).trans (Ext.alloc (Ext.set (Ext.refl _ _) _ _) _))) (by simp [go_sem]) (by simp [go_sem]) (by simp [go_sem]) (by simp [go_sem]) (by simp [go_sem]) (by simp [go_sem])) ((Ext.of hby).trans (Ext.alloc (Ext.set (Ext.refl _ _) _ _) _))), Lib.hid ((((BW.out.trans (hby.mono (by have := BW.out.size; omega))).setCell (Nat.le_refl _) _).alloc (by have := hby.size; have := BW.out.size; simp; omega) _))⟩ | exact ⟨q, _, by omega, by go_num, Lib.hid (At.alloc ((At.below AW.out hbz AW.out.lt).set (q * 2) (.iface 123 (.pointer (some ⟨wz1.heap.size, 0, none⟩)))) _), Lib.hid (goodStep CL.out GW.out hq _ (.inr ⟨_, _, rfl⟩) (CL.out.ifn _ _ vx vy vz (by omega) hIx hIy hIz (CL.out.ext _ _ _ hΦx ((Ext.of hbz).trans (Ext.alloc (Ext.set (Ext.refl _ _) _ _) _))) (CL.out.ext _ _ _ hΦy ((Ext.of hbz).trans (Ext.alloc (Ext.set (Ext.refl _ _) _ _) _))) (CL.out.ext _ _ _ hΦz ((Ext.of hbz).trans (Ext.alloc (Ext.set (Ext.refl _ _) _ _) _))) (by simp [go_sem]) (by simp [go_sem]) (by simp [go_sem]) (by simp [go_sem]) (by simp [go_sem]) (by simp [go_sem])) ((Ext.of hbz).trans (Ext.alloc (Ext.set (Ext.refl _ _) _ _) _))), Lib.hid ((((BW.out.trans (hbz.mono (by have := BW.out.size; omega))).setCell (Nat.le_refl _) _).alloc (by have := hbz.size; have := BW.out.size; simp; omega) _))⟩
            case measure => first | (simp [intOf]; done) | (simp [intOf]; omega)
      by_cases e13 : k = 13
      · subst e13
        as_aux_lemma =>
          go_wp2_with fail
          obtain ⟨W, hW⟩ : ∃ W, W = wr.alloc (.cells #[.int .u8 13, .int .u8 op, .bool f, .int .u8 ch, .int .i32 x, .int .i32 y, .int .i32 z] 97) := ⟨_, rfl⟩
          rw [← hW]
          have s0 : W.cell? ⟨wr.heap.size, 0, none⟩ = some (.int .u8 13) := by rw [hW]; simp [go_sem]
          have s1 : W.cell? ⟨wr.heap.size, 1, none⟩ = some (.int .u8 op) := by rw [hW]; simp [go_sem]
          have s2 : W.cell? ⟨wr.heap.size, 2, none⟩ = some (.bool f) := by rw [hW]; simp [go_sem]
          have s3 : W.cell? ⟨wr.heap.size, 3, none⟩ = some (.int .u8 ch) := by rw [hW]; simp [go_sem]
          have s4 : W.cell? ⟨wr.heap.size, 4, none⟩ = some (.int .i32 x) := by rw [hW]; simp [go_sem]
          have s5 : W.cell? ⟨wr.heap.size, 5, none⟩ = some (.int .i32 y) := by rw [hW]; simp [go_sem]
          have s6 : W.cell? ⟨wr.heap.size, 6, none⟩ = some (.int .i32 z) := by rw [hW]; simp [go_sem]
          have AW := Lib.hid (show At W w.heap.size 32 cs from by rw [hW]; exact At.alloc AT.out _)
          have GW := Lib.hid (show Good Φ W cs n (q + 1) from ⟨HG.out.1, HG.out.2.1, fun j h1 h2 => by obtain ⟨v, a1, a2, a3⟩ := HG.out.2.2 j h1 h2; exact ⟨v, a1, a2, CL.out.ext _ _ _ a3 (by rw [hW]; exact Ext.of ((Below.refl _ _).alloc (Nat.le_refl _) _))⟩⟩)
          have BW := Lib.hid (show Below w.heap.size w W from by rw [hW]; exact HB.out.alloc (by have := HB.out.size; omega) _)
          have zW : wr.heap.size < W.heap.size := by rw [hW]; simp
          have zg : w.heap.size < wr.heap.size := AT.out.lt
          clear hW h0 h1 h2 h3 h4 h5 h6 AT HG HB
          have HCx := Lib.hid (fun (W' : World) (hb : Below W.heap.size W W') => childB Φ w.heap.size n q x cs W W' (CL.out.nil W) AW.out GW.out hn hq wx.1 wx.2 hb)
          clear HR
          go_region_held3 (fun w' => w'.cell? ⟨wr.heap.size, 2, none⟩ = some (.bool f) ∧ w'.cell? ⟨wr.heap.size, 3, none⟩ = some (.int .u8 ch) ∧ w'.cell? ⟨wr.heap.size, 4, none⟩ = some (.int .i32 x)) (repeat' (first | (refine And.intro ?_ ?_) | assumption | apply kAlloc | apply kDrew | (refine kSet ?_ (by omega)))) (first | (go_at_call 26; (with_reducible refine Calls.mono (HCx.out _ ?hb) ?_); (case hb => (first | with_reducible exact Below.refl _ _ | with_reducible assumption | (with_reducible refine Below.drew ?_; first | with_reducible exact Below.refl _ _ | with_reducible assumption))); rintro e wx1 ⟨vx, rfl, hIx, hΦx, hbx⟩; have mx2 : wx1.cell? ⟨wr.heap.size, 2, none⟩ = some (.bool f) := kept hbx s2; have mx3 : wx1.cell? ⟨wr.heap.size, 3, none⟩ = some (.int .u8 ch) := kept hbx s3; have mx4 : wx1.cell? ⟨wr.heap.size, 4, none⟩ = some (.int .i32 x) := kept hbx s4; have e0x : wx1.cell? ⟨w.heap.size, q * 2, none⟩ = some u0 := (by rw [(At.below AW.out hbx AW.out.lt).cell]; exact HU.out); have efx := (At.below AW.out hbx AW.out.lt).frozen (q * 2); have elx := (At.below AW.out hbx AW.out.lt).lt))
          all_goals
            go_wp2_with fail
            go_roundw
            case rel => first | exact ⟨q, _, by omega, by go_num, Lib.hid (At.alloc ((At.below AW.out hbx AW.out.lt).set (q * 2) (.iface 137 (.pointer (some ⟨wx1.heap.size, 0, none⟩)))) _), Lib.hid (goodStep CL.out GW.out hq _ (.inr ⟨_, _, rfl⟩) (CL.out.oth _ _ 137 (by omega) (by decide)) ((Ext.of hbx).trans (Ext.alloc (Ext.set (Ext.refl _ _) _ _) _))), Lib.hid ((((BW.out.trans (hbx.mono (by have := BW.out.size; omega))).setCell (Nat.le_refl _) _).alloc (by have := hbx.size; have := BW.out.size; simp; omega) _))⟩
            case measure => first | (simp [intOf]; done) | (simp [intOf]; omega)
      by_cases e14 : k = 14
      · subst e14
        as_aux_lemma =>
          go_wp2_with fail
          obtain ⟨W, hW⟩ : ∃ W, W = wr.alloc (.cells #[.int .u8 14, .int .u8 op, .bool f, .int .u8 ch, .int .i32 x, .int .i32 y, .int .i32 z] 97) := ⟨_, rfl⟩
          rw [← hW]
          have s0 : W.cell? ⟨wr.heap.size, 0, none⟩ = some (.int .u8 14) := by rw [hW]; simp [go_sem]
          have s1 : W.cell? ⟨wr.heap.size, 1, none⟩ = some (.int .u8 op) := by rw [hW]; simp [go_sem]
          have s2 : W.cell? ⟨wr.heap.size, 2, none⟩ = some (.bool f) := by rw [hW]; simp [go_sem]
          have s3 : W.cell? ⟨wr.heap.size, 3, none⟩ = some (.int .u8 ch) := by rw [hW]; simp [go_sem]
          have s4 : W.cell? ⟨wr.heap.size, 4, none⟩ = some (.int .i32 x) := by rw [hW]; simp [go_sem]
          have s5 : W.cell? ⟨wr.heap.size, 5, none⟩ = some (.int .i32 y) := by rw [hW]; simp [go_sem]
          have s6 : W.cell? ⟨wr.heap.size, 6, none⟩ = some (.int .i32 z) := by rw [hW]; simp [go_sem]
          have AW := Lib.hid (show At W w.heap.size 32 cs from by rw [hW]; exact At.alloc AT.out _)
          have GW := Lib.hid (show Good Φ W cs n (q + 1) from ⟨HG.out.1, HG.out.2.1, fun j h1 h2 => by obtain ⟨v, a1, a2, a3⟩ := HG.out.2.2 j h1 h2; exact ⟨v, a1, a2, CL.out.ext _ _ _ a3 (by rw [hW]; exact Ext.of ((Below.refl _ _).alloc (Nat.le_refl _) _))⟩⟩)
          have BW := Lib.hid (show Below w.heap.size w W from by rw [hW]; exact HB.out.alloc (by have := HB.out.size; omega) _)
          have zW : wr.heap.size < W.heap.size := by rw [hW]; simp
          have zg : w.heap.size < wr.heap.size := AT.out.lt
          clear hW h0 h1 h2 h3 h4 h5 h6 AT HG HB
          have HCx := Lib.hid (fun (W' : World) (hb : Below W.heap.size W W') => childB Φ w.heap.size n q x cs W W' (CL.out.nil W) AW.out GW.out hn hq wx.1 wx.2 hb)
          have HCy := Lib.hid (fun (W' : World) (hb : Below W.heap.size W W') => childB Φ w.heap.size n q y cs W W' (CL.out.nil W) AW.out GW.out hn hq wy.1 wy.2 hb)
          clear HR
          go_region_held3 (fun w' => w'.cell? ⟨wr.heap.size, 2, none⟩ = some (.bool f) ∧ w'.cell? ⟨wr.heap.size, 3, none⟩ = some (.int .u8 ch) ∧ w'.cell? ⟨wr.heap.size, 4, none⟩ = some (.int .i32 x) ∧ w'.cell? ⟨wr.heap.size, 5, none⟩ = some (.int .i32 y)) (repeat' (first | (refine And.intro ?_ ?_) | assumption | apply kAlloc | apply kDrew | (refine kSet ?_ (by omega)))) (first | (go_at_call 26; (with_reducible refine Calls.mono (HCx.out _ ?hb) ?_); (case hb => (first | with_reducible exact Below.refl _ _ | with_reducible assumption | (with_reducible refine Below.drew ?_; first | with_reducible exact Below.refl _ _ | with_reducible assumption))); rintro e wx1 ⟨vx, rfl, hIx, hΦx, hbx⟩; have mx2 : wx1.cell? ⟨wr.heap.size, 2, none⟩ = some (.bool f) := kept hbx s2; have mx3 : wx1.cell? ⟨wr.heap.size, 3, none⟩ = some (.int .u8 ch) := kept hbx s3; have mx4 : wx1.cell? ⟨wr.heap.size, 4, none⟩ = some (.int .i32 x) := kept hbx s4; have mx5 : wx1.cell? ⟨wr.heap.size, 5, none⟩ = some (.int .i32 y) := kept hbx s5; have e0x : wx1.cell? ⟨w.heap.size, q * 2, none⟩ = some u0 := (by rw [(At.below AW.out hbx AW.out.lt).cell]; exact HU.out); have efx := (At.below AW.out hbx AW.out.lt).frozen (q * 2); have elx := (At.below AW.out hbx AW.out.lt).lt) | (go_at_call 26; (with_reducible refine Calls.mono (HCy.out _ ?hb) ?_); (case hb => (first | with_reducible exact Below.refl _ _ | with_reducible assumption | (with_reducible refine Below.drew ?_; first | with_reducible exact Below.refl _ _ | with_reducible assumption))); rintro e wy1 ⟨vy, rfl, hIy, hΦy, hby⟩; have my2 : wy1.cell? ⟨wr.heap.size, 2, none⟩ = some (.bool f) := kept hby s2; have my3 : wy1.cell? ⟨wr.heap.size, 3, none⟩ = some (.int .u8 ch) := kept hby s3; have my4 : wy1.cell? ⟨wr.heap.size, 4, none⟩ = some (.int .i32 x) := kept hby s4; have my5 : wy1.cell? ⟨wr.heap.size, 5, none⟩ = some (.int .i32 y) := kept hby s5; have e0y : wy1.cell? ⟨w.heap.size, q * 2, none⟩ = some u0 := (by rw [(At.below AW.out hby AW.out.lt).cell]; exact HU.out); have efy := (At.below AW.out hby AW.out.lt).frozen (q * 2); have ely := (At.below AW.out hby AW.out.lt).lt))
          all_goals
            go_wp2_with fail
            go_roundw
            case rel => first | exact ⟨q, _, by omega, by go_num, Lib.hid (At.alloc ((At.below AW.out hbx AW.out.lt).set (q * 2) (.iface 141 (.pointer (some ⟨wx1.heap.size, 0, none⟩)))) _), Lib.hid (goodStep CL.out GW.out hq _ (.inr ⟨_, _, rfl⟩) (CL.out.oth _ _ 141 (by omega) (by decide)) ((Ext.of hbx).trans (Ext.alloc (Ext.set (Ext.refl _ _) _ _) _))), Lib.hid ((((BW.out.trans (hbx.mono (by have := BW.out.size; omega))).setCell (Nat.le_refl _) _).alloc (by have := hbx.size; have := BW.out.size; simp; omega) _))⟩ | exact ⟨q, _, by omega, by go_num, Lib.hid (At.alloc ((At.below AW.out hby AW.out.lt).set (q * 2) (.iface 141 (.pointer (some ⟨wy1.heap.size, 0, none⟩)))) _), Lib.hid (goodStep CL.out GW.out hq _ (.inr ⟨_, _, rfl⟩) (CL.out.oth _ _ 141 (by omega) (by decide)) ((Ext.of hby).trans (Ext.alloc (Ext.set (Ext.refl _ _) _ _) _))), Lib.hid ((((BW.out.trans (hby.mono (by have := BW.out.size; omega))).setCell (Nat.le_refl _) _).alloc (by have := hby.size; have := BW.out.size; simp; omega) _))⟩
            case measure => first | (simp [intOf]; done) | (simp [intOf]; omega)
      by_cases e15 : k = 15
      · subst e15
        as_aux_lemma =>
          go_wp2_with fail
          go_roundw
          case rel => exact ⟨q, _, by omega, by go_num, Lib.hid (At.alloc (At.alloc (AT.out.set (q * 2) (.iface 144 (.pointer (some ⟨wr.heap.size + 1, 0, none⟩)))) _) _), Lib.hid (goodStep CL.out HG.out hq _ (.inr ⟨_, _, rfl⟩) (CL.out.oth _ _ 144 (by have := AT.out.lt; omega) (by decide)) (by repeat (first | with_reducible exact Ext.refl _ _ | (with_reducible refine Ext.alloc ?_ _) | (with_reducible refine Ext.set ?_ _ _) | (with_reducible refine Ext.drew ?_)))), Lib.hid (((HB.out.setCell (Nat.le_refl _) _).alloc (by have := HB.out.size; simp; omega) _).alloc (by have := HB.out.size; simp; omega) _)⟩
          case measure => first | (simp [intOf]; done) | (simp [intOf]; omega)
      by_cases e16 : k = 16
      · subst e16
        as_aux_lemma =>
          go_wp2_with fail
          go_roundw
          case rel => exact ⟨q, _, by omega, by go_num, Lib.hid (At.alloc (At.alloc (AT.out.set (q * 2) (.iface 156 (.pointer (some ⟨wr.heap.size + 1, 0, none⟩)))) _) _), Lib.hid (goodStep CL.out HG.out hq _ (.inr ⟨_, _, rfl⟩) (CL.out.oth _ _ 156 (by have := AT.out.lt; omega) (by decide)) (by repeat (first | with_reducible exact Ext.refl _ _ | (with_reducible refine Ext.alloc ?_ _) | (with_reducible refine Ext.set ?_ _ _) | (with_reducible refine Ext.drew ?_)))), Lib.hid (((HB.out.setCell (Nat.le_refl _) _).alloc (by have := HB.out.size; simp; omega) _).alloc (by have := HB.out.size; simp; omega) _)⟩
          case measure => first | (simp [intOf]; done) | (simp [intOf]; omega)
      by_cases e17 : k = 17
      · subst e17
        as_aux_lemma =>
          go_wp2_with fail
          go_roundw
          case rel => exact ⟨q, _, by omega, by go_num, Lib.hid (At.alloc (At.alloc (AT.out.set (q * 2) (.iface 159 (.pointer (some ⟨wr.heap.size + 1, 0, none⟩)))) _) _), Lib.hid (goodStep CL.out HG.out hq _ (.inr ⟨_, _, rfl⟩) (CL.out.oth _ _ 159 (by have := AT.out.lt; omega) (by decide)) (by repeat (first | with_reducible exact Ext.refl _ _ | (with_reducible refine Ext.alloc ?_ _) | (with_reducible refine Ext.set ?_ _ _) | (with_reducible refine Ext.drew ?_)))), Lib.hid (((HB.out.setCell (Nat.le_refl _) _).alloc (by have := HB.out.size; simp; omega) _).alloc (by have := HB.out.size; simp; omega) _)⟩
          case measure => first | (simp [intOf]; done) | (simp [intOf]; omega)
      go_wp2_with fail
      go_roundw
      case rel => exact ⟨q, _, by omega, by go_num, Lib.hid (At.alloc (At.alloc (AT.out.set (q * 2) (.iface 47 (.pointer (some ⟨wr.heap.size + 1, 0, none⟩)))) _) _), Lib.hid (goodStep CL.out HG.out hq _ (.inr ⟨_, _, rfl⟩) (CL.out.oth _ _ 47 (by have := AT.out.lt; omega) (by decide)) (by repeat (first | with_reducible exact Ext.refl _ _ | (with_reducible refine Ext.alloc ?_ _) | (with_reducible refine Ext.set ?_ _ _) | (with_reducible refine Ext.drew ?_)))), Lib.hid (((HB.out.setCell (Nat.le_refl _) _).alloc (by have := HB.out.size; simp; omega) _).alloc (by have := HB.out.size; simp; omega) _)⟩
      case measure => first | (simp [intOf]; done) | (simp [intOf]; omega)
end Go.Proofs.Ytjcblmbndkacgaa
