/- Proved here: what the log's closures do. -/
import Derived.Test.YtkkkamniccgblaaFmtMFB
import Derived.Test.YtkkkamniccgblaaFmtMFM
import Derived.WalkKit
import Derived.WalkSpells
import Derived.WalkLawsBesides
import Derived.Lib.Hide
import Derived.Lib.SliceRun
import Derived.Deep.RegionWith
import Derived.BigRegion
import Derived.OwnWalk
import Derived.Laws.OwnMore
import Derived.Defers
import Derived.Conc.MuLone
import Derived.Deep.Cut
import Derived.Carry
namespace Go.Proofs.YtkkkamniccgblaaFmt
open Go.RowKit
set_option linter.unusedSimpArgs false
set_option linter.unusedVariables false

namespace MF
open Go.MuLone
theorem isort (v : Value) (n : Nat) (hn : n ≤ 1) (w : World) : Calls Tryf.prog 42 #[v, .int .i64 0, .int .i64 n] w fun e w' => e = .returned (.tuple #[]) ∧ w' = w := by
  have h1 : ¬ ((1 : Int) < n) := by omega
  go_enter Tryf.func42, Tryf.ntmps42
  go_wp2_with fail
  go_loopw [6] (fun v6 wr => v6 = .int .i64 1 ∧ wr = w) (fun _ _ => 0)
  case atStart => exact ⟨rfl, rfl⟩
  case round =>
    obtain ⟨rfl, rfl⟩ := hrel
    go_wp2_with fail
    all_goals (go_end0; exact ⟨rfl, rfl⟩)
theorem stab (v : Value) (n : Nat) (hn : n ≤ 1) (w : World) : Calls Tryf.prog 32 #[v, .int .i64 n] w fun e w' => e = .returned (.tuple #[]) ∧ w' = w := by
  have h1 : ¬ ((20 : Int) ≤ n) := by omega
  have h2 : ¬ ((20 : Int) < n) := by omega
  go_enter Tryf.func32, Tryf.ntmps32
  go_wp2_with (go_at_call 42; refine (isort _ _ hn _).mono ?_; rintro e w' ⟨rfl, rfl⟩)
  go_loopw [5, 6] (fun v5 v6 wr => v5 = .int .i64 0 ∧ v6 = .int .i64 20 ∧ wr = w) (fun _ _ _ => 0)
  case atStart => exact ⟨rfl, rfl, rfl⟩
  case round =>
    obtain ⟨rfl, rfl, rfl⟩ := hrel
    go_wp2_with (go_at_call 42; refine (isort _ _ hn _).mono ?_; rintro e w' ⟨rfl, rfl⟩)
    go_loopw [4] (fun v4 wr' => v4 = .int .i64 20 ∧ wr' = w') (fun _ _ => 0)
    case atStart => exact ⟨rfl, rfl⟩
    case round =>
      obtain ⟨rfl, rfl⟩ := hrel
      go_wp2_with fail
      all_goals (go_end0; exact ⟨rfl, rfl⟩)
theorem lenM (a : Option Addr) (n c : Nat) (w : World) : Calls Tryf.prog 92 #[.slice a n c] w fun e w' => e = .returned (.int .i64 n) ∧ w' = w := by
  go_enter Tryf.func92, Tryf.ntmps92
  go_wp2_with fail
  go_ret
  exact ⟨rfl, rfl⟩
set_option maxRecDepth 100000 in
theorem stable (a : Option Addr) (n c : Nat) (hn : n ≤ 1) (w : World) : Calls Tryf.prog 27 #[.iface 189 (.slice a n c)] w fun e w' => e = .returned (.tuple #[]) ∧ w' = w := by
  have hmeth : ∀ w, (method 512 189 (.slice a n c) "Len").run Tryf.prog w = .ok (92, .slice a n c) w := fun w => by kernel_rfl
  go_enter Tryf.func27, Tryf.ntmps27
  go_wp2_with (first
    | (go_at_call 92; refine (lenM _ _ _ _).mono ?_; rintro e w' ⟨rfl, rfl⟩)
    | (go_at_call 32; refine (stab _ _ hn _).mono ?_; rintro e w' ⟨rfl, rfl⟩))
  go_end0
  exact ⟨rfl, rfl⟩
/-- Done. -/
theorem doneF (mu ms : Nat) (a : Option Addr) (n c : Nat) (hn : n ≤ 1) (w : World) (hne : mu ≠ ms) (h0 : w.cell? ⟨mu, 0, none⟩ = some (il 0)) (f0 : w.frozen? ⟨mu, 0, none⟩ = false) (hm : w.cell? ⟨ms, 0, none⟩ = some (.slice a n c)) :
    Calls Tryf.prog 26 #[.pointer (some ⟨mu, 0, none⟩), .pointer (some ⟨ms, 0, none⟩)] w fun e w' => e = .returned (.slice a n c) ∧ w' = (w.setCell ⟨mu, 0, none⟩ (il 1)).setCell ⟨mu, 0, none⟩ (il 0) := by
  have hm1 : (w.setCell ⟨mu, 0, none⟩ (il 1)).cell? ⟨ms, 0, none⟩ = some (.slice a n c) := (World.cell?_setCell_other _ _ _ _ (by simp [hne])).trans hm
  have h1 : (w.setCell ⟨mu, 0, none⟩ (il 1)).cell? ⟨mu, 0, none⟩ = some (il 1) := World.cell?_setCell_same w _ (il 1) h0
  have f1 : (w.setCell ⟨mu, 0, none⟩ (il 1)).frozen? ⟨mu, 0, none⟩ = false := by simp [f0]
  obtain ⟨W, hW⟩ : ∃ W, W = w.setCell ⟨mu, 0, none⟩ (il 1) := ⟨_, rfl⟩
  rw [← hW] at hm1 h1 f1 ⊢
  have HL : Calls Tryf.prog 22 #[.pointer (some ⟨mu, 0, none⟩)] w fun e w' => e = .returned (.tuple #[]) ∧ w' = W := by
    have := lock_free muLib ⟨mu, 0, none⟩ w h0 f0
    rw [← hW] at this
    exact this
  have HU := unlock_deferred muLib ⟨mu, 0, none⟩ .returning W h1 f1
  clear hW h0 f0 hm h1 f1
  go_enter_defers Tryf.func26, Tryf.ntmps26
  go_wp2_with (first
    | (go_at_call 22; refine HL.mono ?_; rintro e w' ⟨rfl, rfl⟩)
    | (go_at_call 27; refine (stable _ _ _ hn _).mono ?_; rintro e w' ⟨rfl, rfl⟩))
  refine leaves_cons (f := 23) (args := #[.pointer (some ⟨mu, 0, none⟩)]) (by simp) (by simp [go_sem]) ?_
  refine HU.mono ?_
  rintro e u' w'' ⟨rfl, rfl, rfl⟩
  exact ⟨_, results_tmp rfl _ _ _, rfl, rfl⟩
structure DD (lv mu he ms : Nat) : Prop where
  a : lv ≠ mu
  b : lv ≠ he
  c : lv ≠ ms
  d : mu ≠ he
  e : mu ≠ ms
  f : he ≠ ms
/-- The log's variables, nothing said yet; the lock's state m. -/
structure LG (w : World) (lv mu he ms : Nat) (m : Int) : Prop where
  l : w.cell? ⟨lv, 0, none⟩ = some (.int .u8 0)
  m : w.cell? ⟨mu, 0, none⟩ = some (il m)
  mf : w.frozen? ⟨mu, 0, none⟩ = false
  h : ∃ b, w.cell? ⟨he, 0, none⟩ = some (.bool b)
  hf : w.frozen? ⟨he, 0, none⟩ = false
  s : w.cell? ⟨ms, 0, none⟩ = some (.slice none 0 0)
  sf : w.frozen? ⟨ms, 0, none⟩ = false
theorem LG.below {w w' : World} {B lv mu he ms : Nat} {m : Int} (h : LG w lv mu he ms m) (hb : Below B w w') (h1 : lv < B) (h2 : mu < B) (h3 : he < B) (h4 : ms < B) : LG w' lv mu he ms m :=
  ⟨(hb.cell h1).trans h.l, (hb.cell h2).trans h.m, (hb.frozen h2).trans h.mf, h.h.imp fun _ q => (hb.cell h3).trans q, (hb.frozen h3).trans h.hf, (hb.cell h4).trans h.s, (hb.frozen h4).trans h.sf⟩
theorem LG.setM {w : World} {lv mu he ms : Nat} {m : Int} (D : DD lv mu he ms) (h : LG w lv mu he ms m) (k : Int) : LG (w.setCell ⟨mu, 0, none⟩ (il k)) lv mu he ms k :=
  ⟨(World.cell?_setCell_other _ _ _ _ (by simp [Ne.symm D.a])).trans h.l, World.cell?_setCell_same w _ (il k) h.m, by simp [h.mf], h.h.imp fun _ q => (World.cell?_setCell_other _ _ _ _ (by simp [D.d])).trans q, by simp [h.hf], (World.cell?_setCell_other _ _ _ _ (by simp [D.e])).trans h.s, by simp [h.sf]⟩
theorem LG.setH {w : World} {lv mu he ms : Nat} {m : Int} (D : DD lv mu he ms) (h : LG w lv mu he ms m) : LG (w.setCell ⟨he, 0, none⟩ (.bool true)) lv mu he ms m := by
  obtain ⟨b, hb⟩ := h.h
  exact ⟨(World.cell?_setCell_other _ _ _ _ (by simp [Ne.symm D.b])).trans h.l, (World.cell?_setCell_other _ _ _ _ (by simp [Ne.symm D.d])).trans h.m, by simp [h.mf], ⟨_, World.cell?_setCell_same w _ (.bool true) hb⟩, by simp [h.hf], (World.cell?_setCell_other _ _ _ _ (by simp [D.f])).trans h.s, by simp [h.sf]⟩
abbrev mcs (lp : Option Addr) (s : ByteArray) (k i : Int) : Array Value := #[.slice none 0 0, .string ⟨#[]⟩, .nilIface, .pointer lp, .string s, .bool false, .int .u8 k, .int .u8 i]
/-- Every block is as it was, but those of X. -/
def KX (X : List Nat) (w w' : World) : Prop := w.heap.size ≤ w'.heap.size ∧ ∀ b, b < w.heap.size → b ∉ X → w'.heap[b]? = w.heap[b]?
theorem KX.refl (X : List Nat) (w : World) : KX X w w := ⟨Nat.le_refl _, fun _ _ _ => rfl⟩
theorem KX.alloc {X : List Nat} {w w' : World} (h : KX X w w') (o : Obj) : KX X w (w'.alloc o) :=
  ⟨by have := h.1; simp; omega, fun b hb hx => (Below.heap_alloc w' o b (by have := h.1; omega)).trans (h.2 b hb hx)⟩
theorem KX.drew {X : List Nat} {w w' : World} (h : KX X w w') : KX X w w'.drew := h
theorem KX.drewN {X : List Nat} {w w' : World} (h : KX X w w') (n : Nat) : KX X w (w'.drewN n) := h
theorem KX.set {X : List Nat} {w w' : World} (h : KX X w w') {p : Nat} (hp : p ∈ X) (j : Nat) (v : Value) : KX X w (w'.setCell ⟨p, j, none⟩ v) :=
  ⟨by have := h.1; simp; omega, fun b hb hx => (Below.heap_setCell w' ⟨p, j, none⟩ v b (fun e => hx (by rw [show b = p from e]; exact hp))).trans (h.2 b hb hx)⟩
theorem KX.trans {X : List Nat} {w w' w'' : World} (h : KX X w w') (h2 : KX X w' w'') : KX X w w'' :=
  ⟨by have := h.1; have := h2.1; omega, fun b hb hx => (h2.2 b (by have := h.1; omega) hx).trans (h.2 b hb hx)⟩
theorem KX.ofBelow {X : List Nat} {w w' : World} (h : Below w.heap.size w w') : KX X w w' := ⟨h.size, fun b hb _ => h.block b hb⟩
/-- One message lies in the log. -/
structure ONE (w : World) (lv mu he ms : Nat) (lp : Option Addr) (s : ByteArray) (k i : Int) : Prop where
  m : w.cell? ⟨mu, 0, none⟩ = some (il 0)
  mf : w.frozen? ⟨mu, 0, none⟩ = false
  s : ∃ G cap, w.cell? ⟨ms, 0, none⟩ = some (.slice (some ⟨G, 0, none⟩) 1 cap) ∧ ∀ j, j < 8 → w.cell? ⟨G, j, none⟩ = (mcs lp s k i)[j]?
def AMP (lv mu he ms : Nat) (lp : Option Addr) (s : ByteArray) (k i : Int) (w : World) (e : Ending) (w' : World) : Prop :=
  e = .returned (.tuple #[]) ∧ ONE w' lv mu he ms lp s k i ∧ KX [mu, he, ms] w w' ∧ ∀ B, B ≤ mu → B ≤ he → B ≤ ms → B ≤ w.heap.size → Below B w w'
set_option maxRecDepth 100000 in
theorem addMsg (lv mu he ms : Nat) (D : DD lv mu he ms) (lp : Option Addr) (s : ByteArray) (k i : Int) (w : World) (h : LG w lv mu he ms 0) :
    Calls Tryf.prog 21 #[.agg (mcs lp s k i), .pointer (some ⟨lv, 0, none⟩), .pointer (some ⟨mu, 0, none⟩), .pointer (some ⟨he, 0, none⟩), .pointer (some ⟨ms, 0, none⟩)] w (AMP lv mu he ms lp s k i w) := by
  have lv' := World.block_lt_of_cell? _ _ h.l
  have lm := World.block_lt_of_cell? _ _ h.m
  have lh := World.block_lt_of_cell? _ _ h.h.choose_spec
  have ls := World.block_lt_of_cell? _ _ h.s
  simp only at lv' lm lh ls
  obtain ⟨W0, hW0⟩ : ∃ W, W = w.alloc (.cells (mcs lp s k i) 34) := ⟨_, rfl⟩
  have B0 : Below w.heap.size w W0 := by rw [hW0]; exact (Below.refl _ _).alloc (Nat.le_refl _) _
  have at0 : At W0 w.heap.size 34 (mcs lp s k i) := by rw [hW0]; exact At.new _ _ _
  have g0 := h.below B0 lv' lm lh ls
  obtain ⟨W1, hW1⟩ : ∃ W, W = W0.setCell ⟨mu, 0, none⟩ (il 1) := ⟨_, rfl⟩
  have g1 : LG W1 lv mu he ms 1 := by rw [hW1]; exact g0.setM D 1
  have at1 : At W1 w.heap.size 34 (mcs lp s k i) := by rw [hW1]; exact At.far at0 (by simp; omega) _
  have HL : Calls Tryf.prog 22 #[.pointer (some ⟨mu, 0, none⟩)] W0 fun e w' => e = .returned (.tuple #[]) ∧ w' = W1 := by
    have := lock_free muLib ⟨mu, 0, none⟩ W0 g0.m g0.mf
    rw [← hW1] at this
    exact this
  have HLh := Lib.hid HL
  clear HL
  have cl := g0.l
  have c6 : W0.cell? ⟨w.heap.size, 6, none⟩ = some (.int .u8 k) := by rw [At.cell at0]; rfl
  -- the world behind the flag
  obtain ⟨W2, hW2⟩ : ∃ W, W = if k = 0 then W1.setCell ⟨he, 0, none⟩ (.bool true) else W1 := ⟨_, rfl⟩
  have g2 : LG W2 lv mu he ms 1 := by rw [hW2]; split; exact g1.setH D; exact g1
  have at2 : At W2 w.heap.size 34 (mcs lp s k i) := by rw [hW2]; split; exact At.far at1 (by simp; omega) _; exact at1
  have k2 : KX [mu, he, ms] w W2 := by
    have e1 : KX [mu, he, ms] w W1 := by rw [hW1, hW0]; exact KX.set (KX.alloc (KX.refl _ _) _) (by simp) _ _
    rw [hW2]; split; exact KX.set e1 (by simp) _ _; exact e1
  have b2 : ∀ B, B ≤ mu → B ≤ he → B ≤ ms → B ≤ w.heap.size → Below B w W2 := by
    intro B x1 x2 x3 x4
    have e1 : Below B w W1 := by rw [hW1, hW0]; exact ((Below.refl _ _).alloc x4 _).setCell x1 _
    rw [hW2]; split; exact e1.setCell x2 _; exact e1
  have sz2 : W2.heap.size = w.heap.size + 1 := by
    have e1 : W1.heap.size = w.heap.size + 1 := by rw [hW1, hW0]; simp
    rw [hW2]; split; simp [e1]; exact e1
  obtain ⟨cap, W3, hrun, hlt3, hblk3, hcel3, hfr3, hb3⟩ := appRun_nil (P := Tryf.prog) (W2.alloc (.cells (mcs lp s k i) 34)) 189 34 (.agg (mcs none ⟨#[]⟩ 0 0)) 8 96 Tryf.underlying189 (by kernel_rfl) (by kernel_rfl) (by omega) (by omega) ⟨W2.heap.size, 0, none⟩ 1 (mcs lp s k i).toList (by simp)
    (fun j u hj => by rw [At.cellAdd (At.new W2 34 (mcs lp s k i)) j]; simpa using hj) (by simp [Value.oneCell']) (W2.heap.size + 1) (by simp)
  have sW1 : (if k = 0 then W1.setCell ⟨he, 0, none⟩ (.bool true) else W1) = W2 := hW2.symm
  have q0 : W2.cell? ⟨w.heap.size, 0, none⟩ = some (.slice none 0 0) := by rw [At.cell at2]; rfl
  have q1 : W2.cell? ⟨w.heap.size, 1, none⟩ = some (.string ⟨#[]⟩) := by rw [At.cell at2]; rfl
  have q2 : W2.cell? ⟨w.heap.size, 2, none⟩ = some (.nilIface) := by rw [At.cell at2]; rfl
  have q3 : W2.cell? ⟨w.heap.size, 3, none⟩ = some (.pointer lp) := by rw [At.cell at2]; rfl
  have q4 : W2.cell? ⟨w.heap.size, 4, none⟩ = some (.string s) := by rw [At.cell at2]; rfl
  have q5 : W2.cell? ⟨w.heap.size, 5, none⟩ = some (.bool false) := by rw [At.cell at2]; rfl
  have q6 : W2.cell? ⟨w.heap.size, 6, none⟩ = some (.int .u8 k) := by rw [At.cell at2]; rfl
  have q7 : W2.cell? ⟨w.heap.size, 7, none⟩ = some (.int .u8 i) := by rw [At.cell at2]; rfl
  have k6 : W1.cell? ⟨w.heap.size, 6, none⟩ = some (.int .u8 k) := by rw [At.cell at1]; rfl
  have fh := g1.hf
  obtain ⟨bh, ch⟩ := g1.h
  have cs := g2.s
  have lm2 : mu < W2.heap.size + 1 := by omega
  have ls2 : ms < W2.heap.size + 1 := by omega
  have ba : Below W2.heap.size W2 (W2.alloc (.cells (mcs lp s k i) 34)) := (Below.refl _ _).alloc (Nat.le_refl _) _
  have lm3 : mu < W2.heap.size := by omega
  have ls3 : ms < W2.heap.size := by omega
  have sf : W3.frozen? ⟨ms, 0, none⟩ = false := (hb3.frozen ls2).trans ((ba.frozen ls3).trans g2.sf)
  have cs3 : W3.cell? ⟨ms, 0, none⟩ = some (.slice none 0 0) := (hb3.cell ls2).trans ((ba.cell ls3).trans g2.s)
  have cm3 : W3.cell? ⟨mu, 0, none⟩ = some (il 1) := (hb3.cell lm2).trans ((ba.cell lm3).trans g2.m)
  have mf3 : W3.frozen? ⟨mu, 0, none⟩ = false := (hb3.frozen lm2).trans ((ba.frozen lm3).trans g2.mf)
  have e12 : W2.heap.size = W1.heap.size := by rw [hW2]; split <;> simp
  have k3 : KX [mu, he, ms] w W3 := (KX.alloc k2 _).trans (KX.ofBelow (hb3.mono (by simp)))
  have b3 : ∀ B, B ≤ mu → B ≤ he → B ≤ ms → B ≤ w.heap.size → Below B w W3 := fun B x1 x2 x3 x4 => ((b2 B x1 x2 x3 x4).alloc (by omega) _).trans (hb3.mono (by omega))
  -- behind the store and the unlock
  obtain ⟨W4, hW4⟩ : ∃ W, W = W3.setCell ⟨ms, 0, none⟩ (.slice (some ⟨W2.heap.size + 1, 0, none⟩) 1 cap) := ⟨_, rfl⟩
  have cm4 : W4.cell? ⟨mu, 0, none⟩ = some (il 1) := by rw [hW4]; exact (World.cell?_setCell_other _ _ _ _ (by simp [Ne.symm D.e])).trans cm3
  have mf4 : W4.frozen? ⟨mu, 0, none⟩ = false := by rw [hW4]; simp [mf3]
  have HU := unlock_deferred muLib ⟨mu, 0, none⟩ .returning W4 cm4 mf4
  have hend : AMP lv mu he ms lp s k i w (.returned (.tuple #[])) (W4.setCell ⟨mu, 0, none⟩ (il 0)) := by
    refine ⟨rfl, ⟨World.cell?_setCell_same W4 _ (il 0) cm4, by simp [mf4], W2.heap.size + 1, cap, ?_, ?_⟩, ?_, ?_⟩
    · rw [hW4]
      exact (World.cell?_setCell_other _ _ _ _ (by simp [D.e])).trans (World.cell?_setCell_same W3 _ _ cs3)
    · intro j hj
      have := hcel3 j hj
      rw [hW4]
      refine (World.cell?_setCell_other _ _ _ _ (by first | omega | (simp; done) | (simp; omega))).trans ((World.cell?_setCell_other _ _ _ _ (by first | omega | (simp; done) | (simp; omega))).trans (this.trans ?_))
      simp
    · rw [hW4]; exact KX.set (KX.set k3 (by simp) _ _) (by simp) _ _
    · intro B x1 x2 x3 x4
      rw [hW4]; exact ((b3 B x1 x2 x3 x4).setCell x3 _).setCell x1 _
  rw [e12] at hrun hW4
  have HE := Lib.hid hend
  have HUh := Lib.hid HU
  have HW4 := Lib.hid hW4
  have HW1 := Lib.hid hW1
  subst hW0
  clear lm2 ls2 lm3 ls3 ba e12 hend HU hW4 hW1 hW2 b3 k3 mf3 cm3 b2 k2 at2 at1 at0 g0 g1 g2 B0 hb3 hblk3 hcel3 hfr3 hlt3 cm4 mf4 h D sz2
  by_cases hk : k = 0
  · rw [if_pos hk] at sW1
    subst hk
    subst sW1
    go_enter_defers Tryf.func21, Tryf.ntmps21
    go_wp2_with (go_at_call 22; refine HLh.out.mono ?_; rintro e w' ⟨rfl, rfl⟩)
    rw [← HW4.out]
    refine leaves_cons (f := 23) (args := #[.pointer (some ⟨mu, 0, none⟩)]) (by simp) (by simp [go_sem]) ?_
    refine HUh.out.mono ?_
    rintro e u' w'' ⟨rfl, rfl, rfl⟩
    exact ⟨_, results_none rfl _ _ _, HE.out⟩
  · rw [if_neg hk] at sW1
    subst sW1
    go_enter_defers Tryf.func21, Tryf.ntmps21
    go_wp2_with (go_at_call 22; refine HLh.out.mono ?_; rintro e w' ⟨rfl, rfl⟩)
    rw [← HW4.out]
    refine leaves_cons (f := 23) (args := #[.pointer (some ⟨mu, 0, none⟩)]) (by simp) (by simp [go_sem]) ?_
    refine HUh.out.mono ?_
    rintro e u' w'' ⟨rfl, rfl, rfl⟩
    exact ⟨_, results_none rfl _ _ _, HE.out⟩
end MF
end Go.Proofs.YtkkkamniccgblaaFmt
