/- Proved here: contracts of the makers of dot, index and enum nodes, of the exported comparison and of the laws' guards. Conditions as stated. -/
import Derived.Test.YtgghakmfcodojaaDCC
import Derived.Test.YtgghakmfcodojaaDCD
import Derived.WalkKit
import Derived.WalkSpells
import Derived.WalkLawsBesides
import Derived.Lib.Hide
import Derived.Lib.SliceRun
import Derived.Deep.RegionWith
import Derived.Deep.QuietTactic
import Derived.BigQuiet
namespace Go.Proofs.Ytgghakmfcodojaa
open Go.RowKit
set_option linter.unusedSimpArgs false
set_option linter.unusedVariables false

def DotAt (w : World) (d t x : Nat) (l : Int) (s : ByteArray) : Prop := w.cell? ⟨d, 0, none⟩ = some (.iface t (.pointer (some ⟨x, 0, none⟩))) ∧ w.cell? ⟨d, 1, none⟩ = some (.int .i32 l) ∧ w.cell? ⟨d, 2, none⟩ = some (.string s) ∧ w.cell? ⟨d, 4, none⟩ = some (.int .u8 0)
def IdxAt (w : World) (d t x : Nat) (l : Int) (u y : Nat) (k : Int) : Prop := w.cell? ⟨d, 0, none⟩ = some (.iface t (.pointer (some ⟨x, 0, none⟩))) ∧ w.cell? ⟨d, 1, none⟩ = some (.int .i32 l) ∧ w.cell? ⟨d, 2, none⟩ = some (.iface u (.pointer (some ⟨y, 0, none⟩))) ∧ w.cell? ⟨d, 3, none⟩ = some (.int .i32 k) ∧ w.cell? ⟨d, 5, none⟩ = some (.int .u8 0)
def EnmAt (w : World) (d t x : Nat) (l : Int) : Prop := w.cell? ⟨d, 0, none⟩ = some (.iface t (.pointer (some ⟨x, 0, none⟩))) ∧ w.cell? ⟨d, 1, none⟩ = some (.int .i32 l)
theorem DotAt.below {w w' : World} {d t x : Nat} {l : Int} {s : ByteArray} (h : DotAt w d t x l s) (hb : Below w.heap.size w w') : DotAt w' d t x l s := ⟨kept hb h.1, kept hb h.2.1, kept hb h.2.2.1, kept hb h.2.2.2⟩
theorem IdxAt.below {w w' : World} {d t x u y : Nat} {l k : Int} (h : IdxAt w d t x l u y k) (hb : Below w.heap.size w w') : IdxAt w' d t x l u y k := ⟨kept hb h.1, kept hb h.2.1, kept hb h.2.2.1, kept hb h.2.2.2.1, kept hb h.2.2.2.2⟩
theorem EnmAt.below {w w' : World} {d t x : Nat} {l : Int} (h : EnmAt w d t x l) (hb : Below w.heap.size w w') : EnmAt w' d t x l := ⟨kept hb h.1, kept hb h.2⟩
def DotP (t x : Nat) (l : Int) (s : ByteArray) (w : World) (e : Ending) (w' : World) : Prop := ∃ d, e = .returned (.agg #[.iface 50 (.pointer (some ⟨d, 0, none⟩)), .int .i32 0]) ∧ DotAt w' d t x l s ∧ Below w.heap.size w w'
def IdxP (t x : Nat) (l : Int) (u y : Nat) (k : Int) (w : World) (e : Ending) (w' : World) : Prop := ∃ d, e = .returned (.agg #[.iface 60 (.pointer (some ⟨d, 0, none⟩)), .int .i32 0]) ∧ IdxAt w' d t x l u y k ∧ Below w.heap.size w w'
def EnmP (t x : Nat) (l : Int) (w : World) (e : Ending) (w' : World) : Prop := ∃ d, e = .returned (.agg #[.iface 65 (.pointer (some ⟨d, 0, none⟩)), .int .i32 0]) ∧ EnmAt w' d t x l ∧ w.heap.size ≤ d ∧ Below w.heap.size w w'

set_option maxRecDepth 100000 in
set_option maxHeartbeats 1000000 in
theorem mkdot (t x : Nat) (l : Int) (s : ByteArray) (w : World) :
    Calls Try.prog 9 #[.agg #[.iface t (.pointer (some ⟨x, 0, none⟩)), .int .i32 l], .string s] w (DotP t x l s w) := by
  go_enter Try.func9, Try.ntmps9
  go_wp2_with fail
  exact bodyPost_ret (v := .agg #[.iface 50 (.pointer (some ⟨w.heap.size + 2, 0, none⟩)), .int .i32 0]) (by simp [results, Try.results9, go_sem]) rfl ⟨w.heap.size + 2, rfl, ⟨by simp [go_sem], by simp [go_sem], by simp [go_sem], by simp [go_sem]⟩, (by repeat (first | with_reducible exact Below.refl _ _ | (with_reducible refine Below.drew ?_) | (with_reducible refine Below.alloc ?_ (by simp; try omega) _) | (with_reducible refine Below.setCell ?_ (by simp; try omega) _)))⟩

set_option maxRecDepth 100000 in
set_option maxHeartbeats 1000000 in
theorem mkidx (t x u y : Nat) (l k : Int) (w : World) :
    Calls Try.prog 14 #[.agg #[.iface t (.pointer (some ⟨x, 0, none⟩)), .int .i32 l], .agg #[.iface u (.pointer (some ⟨y, 0, none⟩)), .int .i32 k]] w (IdxP t x l u y k w) := by
  go_enter Try.func14, Try.ntmps14
  go_wp2_with fail
  exact bodyPost_ret (v := .agg #[.iface 60 (.pointer (some ⟨w.heap.size + 3, 0, none⟩)), .int .i32 0]) (by simp [results, Try.results14, go_sem]) rfl ⟨w.heap.size + 3, rfl, ⟨by simp [go_sem], by simp [go_sem], by simp [go_sem], by simp [go_sem], by simp [go_sem]⟩, (by repeat (first | with_reducible exact Below.refl _ _ | (with_reducible refine Below.drew ?_) | (with_reducible refine Below.alloc ?_ (by simp; try omega) _) | (with_reducible refine Below.setCell ?_ (by simp; try omega) _)))⟩

set_option maxRecDepth 100000 in
set_option maxHeartbeats 1000000 in
theorem mkenm (t x : Nat) (l : Int) (w : World) :
    Calls Try.prog 32 #[.agg #[.iface t (.pointer (some ⟨x, 0, none⟩)), .int .i32 l]] w (EnmP t x l w) := by
  go_enter Try.func32, Try.ntmps32
  go_wp2_with fail
  exact bodyPost_ret (v := .agg #[.iface 65 (.pointer (some ⟨w.heap.size + 2, 0, none⟩)), .int .i32 0]) (by simp [results, Try.results32, go_sem]) rfl ⟨w.heap.size + 2, rfl, ⟨by simp [go_sem], by simp [go_sem]⟩, by omega, (by repeat (first | with_reducible exact Below.refl _ _ | (with_reducible refine Below.drew ?_) | (with_reducible refine Below.alloc ?_ (by simp; try omega) _) | (with_reducible refine Below.setCell ?_ (by simp; try omega) _)))⟩

/-- An expression that is a leaf, or (wr) a leaf inside an inlined enum. -/
def WAt (w : World) (t p : Nat) (wr : Bool) (k x : Nat) (b : Bool) (a : Option Addr) (n c : Nat) (r : Int) : Prop :=
  (wr = true → t = 65 ∧ ∃ q, EnmAt w p (lty k) q 0 ∧ LAt w q k x b a n c r) ∧ (wr = false → t = lty k ∧ LAt w p k x b a n c r)
theorem WAt.below {w w' : World} {t p : Nat} {wr : Bool} {k x : Nat} {b : Bool} {a : Option Addr} {n c : Nat} {r : Int} (h : WAt w t p wr k x b a n c r) (hb : Below w.heap.size w w') : WAt w' t p wr k x b a n c r :=
  ⟨fun e => by obtain ⟨ht, q, h1, h2⟩ := h.1 e; exact ⟨ht, q, h1.below hb, h2.below hb⟩, fun e => by obtain ⟨ht, h1⟩ := h.2 e; exact ⟨ht, h1.below hb⟩⟩
def WrP (wr : Bool) (k x : Nat) (b : Bool) (a : Option Addr) (n c : Nat) (r : Int) (w : World) (e : Ending) (w' : World) : Prop :=
  ∃ t p, e = .returned (.agg #[.iface t (.pointer (some ⟨p, 0, none⟩)), .int .i32 0]) ∧ WAt w' t p wr k x b a n c r ∧ Below w.heap.size w w'

set_option maxRecDepth 100000 in
set_option maxHeartbeats 1000000 in
theorem wrapF (t p : Nat) (k x : Nat) (b : Bool) (a : Option Addr) (n c : Nat) (r : Int) (w : World) (ht : t = lty k) (h : LAt w p k x b a n c r) :
    Calls Try.prog 15 #[.agg #[.iface t (.pointer (some ⟨p, 0, none⟩)), .int .i32 0], .bool false] w (WrP false k x b a n c r w) := by
  have H := Lib.hid h
  have HT := Lib.hid ht
  clear h ht
  go_enter Try.func15, Try.ntmps15
  go_wp2_with fail
  exact bodyPost_ret (v := .agg #[.iface t (.pointer (some ⟨p, 0, none⟩)), .int .i32 0]) (by simp [results, Try.results15, go_sem]) rfl ⟨t, p, rfl, ⟨fun e => absurd e (by simp), fun _ => ⟨HT.out, H.out.below (by repeat (first | with_reducible exact Below.refl _ _ | (with_reducible refine Below.drew ?_) | (with_reducible refine Below.alloc ?_ (by simp; try omega) _) | (with_reducible refine Below.setCell ?_ (by simp; try omega) _)))⟩⟩, (by repeat (first | with_reducible exact Below.refl _ _ | (with_reducible refine Below.drew ?_) | (with_reducible refine Below.alloc ?_ (by simp; try omega) _) | (with_reducible refine Below.setCell ?_ (by simp; try omega) _)))⟩

set_option maxRecDepth 100000 in
set_option maxHeartbeats 1000000 in
theorem wrapT (t p : Nat) (k x : Nat) (b : Bool) (a : Option Addr) (n c : Nat) (r : Int) (w : World) (ht : t = lty k) (h : LAt w p k x b a n c r) :
    Calls Try.prog 15 #[.agg #[.iface t (.pointer (some ⟨p, 0, none⟩)), .int .i32 0], .bool true] w (WrP true k x b a n c r w) := by
  have H := Lib.hid h
  have HT := Lib.hid ht
  clear h ht
  go_enter Try.func15, Try.ntmps15
  go_wp2_with fail
  refine (mkenm t p 0 _).mono ?_
  rintro e w1 ⟨d, rfl, hd, hl, hb⟩
  have hz := hb.size
  simp at hz hl
  have d0 : w1.cell? ⟨w.heap.size + 1, 0, none⟩ = some .nilIface := by rw [hb.cell (by simp)]; simp [go_sem]
  have d1 : w1.cell? ⟨w.heap.size + 1, 1, none⟩ = some (.int .i32 0) := by rw [hb.cell (by simp)]; simp [go_sem]
  have f0 : w1.frozen? ⟨w.heap.size + 1, 0, none⟩ = false := by rw [hb.frozen (by simp)]; simp [go_sem]
  have f1 : w1.frozen? ⟨w.heap.size + 1, 1, none⟩ = false := by rw [hb.frozen (by simp)]; simp [go_sem]
  have BW : Below w.heap.size w w1 := ((by repeat (first | with_reducible exact Below.refl _ _ | (with_reducible refine Below.drew ?_) | (with_reducible refine Below.alloc ?_ (by simp; try omega) _) | (with_reducible refine Below.setCell ?_ (by simp; try omega) _))) : Below w.heap.size w _).trans (hb.mono (by simp; try omega))
  have hlt : w.heap.size + 1 < w1.heap.size := by omega
  obtain ⟨e0, e1⟩ := hd
  clear hb
  have E0 := Lib.hid e0
  have E1 := Lib.hid e1
  clear e0 e1
  go_wp2_with fail
  exact bodyPost_ret (v := .agg #[.iface 65 (.pointer (some ⟨d, 0, none⟩)), .int .i32 0]) (by simp [results, Try.results15, go_sem, *]) rfl ⟨65, d, rfl, ⟨fun _ => ⟨rfl, p, ⟨by rw [← HT.out]; exact kSet (kSet E0.out (by omega)) (by omega), kSet (kSet E1.out (by omega)) (by omega)⟩, H.out.below (by repeat (first | with_reducible exact BW | (with_reducible refine Below.drew ?_) | (with_reducible refine Below.alloc ?_ (by have := Below.size BW; simp; try omega) _) | (with_reducible refine Below.setCell ?_ (by have := Below.size BW; simp; try omega) _)))⟩, fun e => absurd e (by simp)⟩, (by repeat (first | with_reducible exact BW | (with_reducible refine Below.drew ?_) | (with_reducible refine Below.alloc ?_ (by have := Below.size BW; simp; try omega) _) | (with_reducible refine Below.setCell ?_ (by have := Below.size BW; simp; try omega) _)))⟩

theorem dce_wr (k x : Nat) (b : Bool) (a : Option Addr) (n c : Nat) (zs : List Int) (r : Int) (k' x' : Nat) (b' : Bool) (a' : Option Addr) (n' c' : Nat) (zs' : List Int) (r' : Int) (wr wr' : Bool) (t p t' q : Nat) (w : World)
    (hk : k ≤ 6) (hk' : k' ≤ 6) (h1 : WAt w t p wr k x b a n c r) (h2 : WAt w t' q wr' k' x' b' a' n' c' r') (r1 : RowV w a n (fun i => .int .u16 (uAt zs i))) (r2 : RowV w a' n' (fun i => .int .u16 (uAt zs' i))) (b1 : n ≤ 1048576) (b2 : n' ≤ 1048576) :
    Calls Try.prog 30 #[.agg #[.iface t (.pointer (some ⟨p, 0, none⟩)), .int .i32 0], .agg #[.iface t' (.pointer (some ⟨q, 0, none⟩)), .int .i32 0]] w (DP (leq k x b n zs r k' x' b' n' zs' r') false w) := by
  have base : ∀ W p q, Below w.heap.size w W → LAt W p k x b a n c r → LAt W q k' x' b' a' n' c' r' → Calls Try.prog 30 #[.agg #[.iface (lty k) (.pointer (some ⟨p, 0, none⟩)), .int .i32 0], .agg #[.iface (lty k') (.pointer (some ⟨q, 0, none⟩)), .int .i32 0]] W (DP (leq k x b n zs r k' x' b' n' zs' r') false W) :=
    fun W p q hW g1 g2 => dce_leaf k x b a n c zs r k' x' b' a' n' c' zs' r' p q 0 0 W hk hk' g1 g2 (r1.below hW) (r2.below hW) b1 b2
  cases wr with
  | false =>
    obtain ⟨rfl, g1⟩ := h1.2 rfl
    cases wr' with
    | false =>
      obtain ⟨rfl, g2⟩ := h2.2 rfl
      exact base w p q (Below.refl _ _) g1 g2
    | true =>
      obtain ⟨rfl, q', g2, g3⟩ := h2.1 rfl
      exact enumR _ p q' q _ 0 0 0 _ _ w g2.1 g2.2 (fun W hW => base W p q' hW (g1.below hW) (g3.below hW))
  | true =>
    obtain ⟨rfl, p', g1, g1'⟩ := h1.1 rfl
    cases wr' with
    | false =>
      obtain ⟨rfl, g2⟩ := h2.2 rfl
      exact enumL _ q p' p _ 0 0 0 _ _ w (lty_ne _) g1.1 g1.2 (fun W hW => base W p' q hW (g1'.below hW) (g2.below hW))
    | true =>
      obtain ⟨rfl, q', g2, g3⟩ := h2.1 rfl
      exact enumR _ p q' q _ 0 0 0 _ _ w g2.1 g2.2 (fun W hW => enumL _ q' p' p _ 0 0 0 _ _ W (lty_ne _) (g1.below hW).1 (g1.below hW).2 (fun W' hW' => base W' p' q' (bel2 hW hW') ((g1'.below hW).below hW') ((g3.below hW).below hW')))

set_option maxRecDepth 100000 in
set_option maxHeartbeats 1000000 in
theorem zdce (t x t' x' : Nat) (l l' : Int) (b1 b2 : Bool) (w : World) (C : ∀ W, Below w.heap.size w W → Calls Try.prog 30 #[.agg #[.iface t (.pointer (some ⟨x, 0, none⟩)), .int .i32 l], .agg #[.iface t' (.pointer (some ⟨x', 0, none⟩)), .int .i32 l']] W (DP b1 b2 W)) :
    Calls Try.prog 11 #[.agg #[.iface t (.pointer (some ⟨x, 0, none⟩)), .int .i32 l], .agg #[.iface t' (.pointer (some ⟨x', 0, none⟩)), .int .i32 l']] w (DP b1 b2 w) := by
  have HC := Lib.hid C
  clear C
  go_enter Try.func11, Try.ntmps11
  go_wp2_with fail
  refine (HC.out _ (by repeat (first | with_reducible exact Below.refl _ _ | (with_reducible refine Below.drew ?_) | (with_reducible refine Below.alloc ?_ (by simp; try omega) _) | (with_reducible refine Below.setCell ?_ (by simp; try omega) _)))).mono ?_
  rintro e w1 ⟨rfl, hb⟩
  go_wp2_with fail
  go_ret2
  exact ⟨rfl, Below.trans (by repeat (first | with_reducible exact Below.refl _ _ | (with_reducible refine Below.drew ?_) | (with_reducible refine Below.alloc ?_ (by simp; try omega) _) | (with_reducible refine Below.setCell ?_ (by simp; try omega) _))) (Below.mono hb (by simp; try omega))⟩
def IsT (w : World) (e : Ending) (w' : World) : Prop := e = .returned (.bool true) ∧ w = w'
def SomeBool (w : World) (e : Ending) (w' : World) : Prop := ∃ b, e = .returned (.bool b) ∧ w = w'

set_option maxRecDepth 100000 in
set_option maxHeartbeats 1000000 in
theorem some7 (k k' : Int) (x x' : Nat) (b b' : Bool) (a a' : Option Addr) (n c n' c' : Nat) (r r' : Int) (s s' : ByteArray) (w : World) (m1 : n ≤ 9223372036854775807) (m2 : n' ≤ 9223372036854775807) (m3 : s.size ≤ 9223372036854775807) (m4 : s'.size ≤ 9223372036854775807) :
    Calls Try.prog 7 #[.int .u8 k, .int .u8 k', .float .f64 x, .float .f64 x', .bool b, .bool b', .slice a n c, .slice a' n' c', .int .u32 r, .int .u32 r', .string s, .string s'] w (SomeBool w) := by
  go_enter Try.func7, Try.ntmps7
  go_wp2_with fail
  all_goals
    go_ret
    exact ⟨_, rfl, rfl⟩

set_option maxRecDepth 100000 in
set_option maxHeartbeats 1000000 in
theorem some13 (k k' : Int) (x x' : Nat) (b b' : Bool) (a a' : Option Addr) (n c n' c' : Nat) (r r' : Int) (u u' : Bool) (w : World) (m1 : n ≤ 9223372036854775807) (m2 : n' ≤ 9223372036854775807) :
    Calls Try.prog 13 #[.int .u8 k, .int .u8 k', .float .f64 x, .float .f64 x', .bool b, .bool b', .slice a n c, .slice a' n' c', .int .u32 r, .int .u32 r', .bool u, .bool u'] w (SomeBool w) := by
  go_enter Try.func13, Try.ntmps13
  go_wp2_with fail
  all_goals
    go_ret
    exact ⟨_, rfl, rfl⟩

set_option maxRecDepth 100000 in
set_option maxHeartbeats 1000000 in
theorem yes7 (k k' : Int) (x x' : Nat) (b b' : Bool) (a a' : Option Addr) (n c n' c' : Nat) (r r' : Int) (s s' : ByteArray) (w : World) (h : n + n' + s.size + s'.size ≤ 1048576) :
    Calls Try.prog 7 #[.int .u8 k, .int .u8 k', .float .f64 x, .float .f64 x', .bool b, .bool b', .slice a n c, .slice a' n' c', .int .u32 r, .int .u32 r', .string s, .string s'] w (IsT w) := by
  go_enter Try.func7, Try.ntmps7
  go_wp2_with fail
  go_ret
  exact ⟨rfl, rfl⟩

set_option maxRecDepth 100000 in
set_option maxHeartbeats 1000000 in
theorem yes13 (k k' : Int) (x x' : Nat) (b b' : Bool) (a a' : Option Addr) (n c n' c' : Nat) (r r' : Int) (u u' : Bool) (w : World) (h : n + n' ≤ 1048576) :
    Calls Try.prog 13 #[.int .u8 k, .int .u8 k', .float .f64 x, .float .f64 x', .bool b, .bool b', .slice a n c, .slice a' n' c', .int .u32 r, .int .u32 r', .bool u, .bool u'] w (IsT w) := by
  go_enter Try.func13, Try.ntmps13
  go_wp2_with fail
  go_ret
  exact ⟨rfl, rfl⟩
end Go.Proofs.Ytgghakmfcodojaa
