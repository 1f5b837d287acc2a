/- Proved here: the contract of buildBinding. Conditions: the code's bytes and the position's cell, as stated. -/
import Derived.Test.YtjcblmbndkacgaaBOA
import Derived.WalkKit
import Derived.WalkSpells
import Derived.WalkLawsBesides
import Derived.Lib.Hide
import Derived.Lib.SliceRun
import Derived.Deep.RegionWith
import Derived.OwnWalk
import Derived.Laws.OwnMore
import Derived.Deep.AppendLies
namespace Go.Proofs.Ytjcblmbndkacgaa
open Go.RowKit
set_option linter.unusedSimpArgs false
set_option linter.unusedVariables false

theorem info91 : (Try.prog.info? 91).map (fun i => (i.zero, i.size, i.bytes)) = some (some (.agg #[.nilIface, .int .i32 0, .nilIface, .int .i32 0, .int .i32 0]), 5, 56) := by kernel_rfl
theorem info82 : (Try.prog.info? 82).map (fun i => (i.zero, i.size, i.bytes)) = some (some (.agg #[.nilIface, .int .i32 0, .nilIface, .int .i32 0, .nilIface, .int .i32 0, .int .i32 0, .int .i32 0, .bool false, .bool false, .bool false]), 11, 88) := by kernel_rfl
/-- Every block of w but g is as it was. -/
structure Xg (g : Nat) (w W : World) : Prop where
  size : w.heap.size ≤ W.heap.size
  block : ∀ b, b < w.heap.size → b ≠ g → W.heap[b]? = w.heap[b]?
  str : W.os = w.os ∧ W.tape = w.tape ∧ W.output = w.output
theorem Xg.refl (g : Nat) (w : World) : Xg g w w := ⟨Nat.le_refl _, fun _ _ _ => rfl, rfl, rfl, rfl⟩
theorem Xg.trans {g : Nat} {a b c : World} (h1 : Xg g a b) (h2 : Xg g b c) : Xg g a c := ⟨Nat.le_trans h1.1 h2.1, fun k hk hg => (h2.2 k (Nat.lt_of_lt_of_le hk h1.1) hg).trans (h1.2 k hk hg), h2.3.1.trans h1.3.1, h2.3.2.1.trans h1.3.2.1, h2.3.2.2.trans h1.3.2.2⟩
theorem Xg.alloc {g : Nat} {a b : World} (h : Xg g a b) (o : Obj) : Xg g a (b.alloc o) := h.trans ⟨by simp, fun k hk _ => Below.heap_alloc b o k hk, rfl, rfl, rfl⟩
theorem Xg.set {g k : Nat} {a b : World} (h : Xg g a b) (hk : k = g ∨ a.heap.size ≤ k) (i : Nat) (v : Value) : Xg g a (b.setCell ⟨k, i, none⟩ v) := ⟨by simp [World.setCell]; exact h.1, fun j hj hg => (Below.heap_setCell b ⟨k, i, none⟩ v j (by simp; omega)).trans (h.2 j hj hg), h.3.1, h.3.2.1, h.3.2.2⟩
theorem Xg.grown {g : Nat} {a b c : World} {row : Option Nat} (h : Xg g a b) (hg : b.grownBy c row) (hr : ∀ k, row = some k → a.heap.size ≤ k) : Xg g a c := ⟨Nat.le_trans h.1 hg.size, fun k hk hl => (hg.block k (Nat.lt_of_lt_of_le hk h.1) (fun e => by have := hr k e.symm; omega)).trans (h.2 k hk hl), hg.os.trans h.3.1, hg.tape.trans h.3.2.1, hg.output.trans h.3.2.2⟩
theorem Xg.below {g B : Nat} {a b : World} (h : Xg g a b) (hg : B ≤ g) (hB : B ≤ a.heap.size) : Below B a b := ⟨h.3.1, h.3.2.1, h.3.2.2, h.1, fun k hk => h.2 k (by omega) (by omega)⟩
theorem Xg.cell {g b o : Nat} {w W : World} {v : Value} (h : Xg g w W) (hb : b ≠ g) (hc : w.cell? ⟨b, o, none⟩ = some v) : W.cell? ⟨b, o, none⟩ = some v :=
  (World.cell?_of_block (a := ⟨b, o, none⟩) (h.2 b (World.block_lt_of_cell? _ _ hc) hb)).trans hc
theorem Xg.at {g b : Nat} {w W : World} {t : TypeId} {cs : Array Value} (h : Xg g w W) (hb : b ≠ g) (hc : At w b t cs) : At W b t cs := (h.2 b hc.lt hb).trans hc
theorem Xg.own {g R : Nat} {B2 : Nat} {w W : World} {e : TypeId} {sz n c m : Nat} {xs : List Value} (h : Xg g w W) (hb : R ≠ g) (ho : w.ownsRow B2 e sz (.slice (some ⟨R, 0, none⟩) n c) m xs) : W.ownsRow B2 e sz (.slice (some ⟨R, 0, none⟩) n c) m xs := by
  refine ⟨ho.1, ?_⟩
  rcases ho.2 with hn | ⟨k, cap, cur, hv, h1, hg, rest⟩
  · exact .inl hn
  · refine .inr ⟨k, cap, cur, hv, h1, ?_, rest⟩
    simp only [Value.slice.injEq, Option.some.injEq, Addr.mk.injEq] at hv
    obtain ⟨⟨rfl, _⟩, _⟩ := hv
    rw [h.2 R (Array.getElem?_eq_some_iff.1 hg).1 hb]
    exact hg
theorem Ex.xg {g B : Nat} {w W : World} (h : Xg g w W) (hg : g < B) : Ex B w W := ⟨h.1, fun k hk hl => h.2 k hl (by omega)⟩
/-- The code: n bytes at a block that is not g. -/
def Ops (g : Nat) (w : World) (a : Option Addr) (n : Nat) (zs : List Int) : Prop := 0 < n → ∃ B off, a = some ⟨B, off, none⟩ ∧ B ≠ g ∧ ∀ i, i < n → w.cell? ⟨B, off + i, none⟩ = some (.int .u8 (zs.getD i 0))
theorem Ops.xg {g : Nat} {w W : World} {a : Option Addr} {n : Nat} {zs : List Int} (h : Ops g w a n zs) (hx : Xg g w W) : Ops g W a n zs := fun hp => by
  obtain ⟨B, off, e, hb, hc⟩ := h hp
  exact ⟨B, off, e, hb, fun i hi => hx.cell hb (hc i hi)⟩
def Pos (g : Nat) (w : World) (p : Nat) : Prop := w.cell? ⟨g, 0, none⟩ = some (.int .i64 (p : Int)) ∧ w.frozen? ⟨g, 0, none⟩ = false
set_option maxRecDepth 100000 in
theorem and7' : ∀ x : Fin 256, ∃ N : Fin 8, bits .and .i64 (((x.val : Nat) : Int) / 4) 7 = ((N.val : Nat) : Int) := by decide
theorem and7 (z : Int) (h0 : 0 ≤ z) (h1 : z ≤ 255) : ∃ N : Nat, bits .and .i64 (z / 4) 7 = (N : Int) ∧ N ≤ 7 := by
  obtain ⟨N, hN⟩ := and7' ⟨z.toNat, by omega⟩
  exact ⟨N.val, by rw [← hN]; congr 1; congr 1; simp; omega, by omega⟩
set_option maxRecDepth 100000 in
theorem and3' : ∀ x : Fin 256, bits .and .u8 ((x.val : Nat) : Int) 3 = 0 ∨ bits .and .u8 ((x.val : Nat) : Int) 3 = 1 ∨ bits .and .u8 ((x.val : Nat) : Int) 3 = 2 ∨ bits .and .u8 ((x.val : Nat) : Int) 3 = 3 := by decide
theorem and3 (z : Int) (h0 : 0 ≤ z) (h1 : z ≤ 255) : bits .and .u8 z 3 = 0 ∨ bits .and .u8 z 3 = 1 ∨ bits .and .u8 z 3 = 2 ∨ bits .and .u8 z 3 = 3 := by
  have h := and3' ⟨z.toNat, by omega⟩
  have e : ((z.toNat : Nat) : Int) = z := by omega
  rw [← e]
  exact h
def BBP (g n p : Nat) (w : World) (e : Ending) (w' : World) : Prop :=
  ∃ d tot t p', e = .returned (.tuple #[.agg #[d, .int .i32 0], .int .i64 tot]) ∧ IsD d ∧ BH w.heap.size w' d t ∧ Pos g w' p' ∧ p ≤ p' ∧ p' ≤ n ∧ Xg g w w'
def AR (g n p N : Nat) (w : World) (a : Option Addr) (zs : List Int) (R : Nat) (s tot i : Value) (wr : World) : Prop :=
  ∃ (j : Nat) (x : Int) (p' : Nat) (xs : List Value) (t : Nat → Bool), j ≤ N ∧ s = .slice (some ⟨R, 0, none⟩) j N ∧ tot = .int .i64 x ∧ i = .int .i64 j ∧ p' ≤ n ∧ p < p' ∧ Hid (Pos g wr p') ∧ Hid (wr.ownsRow R 91 5 s j xs) ∧ Hid (ItA (R + 1) wr xs j t) ∧ Hid (At wr w.heap.size 75 #[.nilIface, .int .i32 0]) ∧ Hid (Xg g w wr) ∧ R + 1 ≤ wr.heap.size ∧ Hid (Ops g wr a n zs)
def OR (g n p N : Nat) (w : World) (a : Option Addr) (zs : List Int) (R : Nat) (s tot i : Value) (wr : World) : Prop :=
  ∃ (j : Nat) (x : Int) (p' : Nat) (xs : List Value) (f t : Nat → Bool), j ≤ N ∧ s = .slice (some ⟨R, 0, none⟩) j N ∧ tot = .int .i64 x ∧ i = .int .i64 j ∧ p' ≤ n ∧ p < p' ∧ Hid (Pos g wr p') ∧ Hid (wr.ownsRow R 82 11 s j xs) ∧ Hid (ItO (R + 1) wr xs j f t) ∧ Hid (At wr w.heap.size 75 #[.nilIface, .int .i32 0]) ∧ Hid (Xg g w wr) ∧ R + 1 ≤ wr.heap.size ∧ Hid (Ops g wr a n zs)

theorem Pos.alloc {g p : Nat} {w : World} (h : Pos g w p) (o : Obj) : Pos g (w.alloc o) p := ⟨kAlloc h.1, (World.frozen?_of_block (a := ⟨g, 0, none⟩) (Below.heap_alloc w o g (World.block_lt_of_cell? _ _ h.1))).trans h.2⟩
theorem Pos.grown {g p : Nat} {w w' : World} {row : Option Nat} (h : Pos g w p) (hg : w.grownBy w' row) (hr : row ≠ some g) : Pos g w' p := ⟨hg.cell h.1 (Ne.symm hr), (World.frozen?_of_block (a := ⟨g, 0, none⟩) (hg.block g (World.block_lt_of_cell? _ _ h.1) (Ne.symm hr))).trans h.2⟩
theorem Pos.set {g p k : Nat} {w : World} (h : Pos g w p) (hk : g ≠ k) (i : Nat) (v : Value) : Pos g (w.setCell ⟨k, i, none⟩ v) p := ⟨kSet h.1 hk, (World.frozen?_of_block (a := ⟨g, 0, none⟩) (Below.heap_setCell w ⟨k, i, none⟩ v g hk)).trans h.2⟩
theorem ItA.ex {B : Nat} {w w' : World} {xs : List Value} {j : Nat} {t : Nat → Bool} (h : ItA B w xs j t) (he : Ex B w w') : ItA B w' xs j t := ⟨h.1, fun q hq => by obtain ⟨d, h1, h2, h3⟩ := h.2 q hq; exact ⟨d, h1, h2.ex he, h3⟩⟩
theorem ItA.low {B B' : Nat} {w : World} {xs : List Value} {j : Nat} {t : Nat → Bool} (h : ItA B w xs j t) (hb : B' ≤ B) : ItA B' w xs j t := ⟨h.1, fun q hq => by obtain ⟨d, h1, h2, h3⟩ := h.2 q hq; exact ⟨d, h1, h2.low hb, h3⟩⟩
theorem ItA.snoc {B : Nat} {w : World} {xs : List Value} {j : Nat} {t : Nat → Bool} (h : ItA B w xs j t) (d : Value) (b : Bool) (hd : IsD d) (hb : BH B w d b) : ItA B w (xs ++ [d, .int .i32 0, .nilIface, .int .i32 0, .int .i32 0]) (j + 1) (fun q => if q = j then b else t q) := by
  refine ⟨by simp [h.1]; omega, fun q hq => ?_⟩
  by_cases e : q = j
  · subst e
    have l := h.1
    refine ⟨d, hd, by simpa using hb, ?_, ?_, ?_, ?_, ?_⟩ <;> (rw [List.getElem?_append_right (by omega), l]; simp)
  · obtain ⟨d', h1, h2, x0, x1, x2, x3, x4⟩ := h.2 q (by omega)
    have l := h.1
    refine ⟨d', h1, by simpa [e] using h2, ?_, ?_, ?_, ?_, ?_⟩ <;> (rw [List.getElem?_append_left (by omega)]; assumption)
theorem ItO.ex {B : Nat} {w w' : World} {xs : List Value} {j : Nat} {s t : Nat → Bool} (h : ItO B w xs j s t) (he : Ex B w w') : ItO B w' xs j s t := ⟨h.1, fun q hq => by obtain ⟨d, h1, h2, h3⟩ := h.2 q hq; exact ⟨d, h1, h2.ex he, h3⟩⟩
theorem ItO.low {B B' : Nat} {w : World} {xs : List Value} {j : Nat} {s t : Nat → Bool} (h : ItO B w xs j s t) (hb : B' ≤ B) : ItO B' w xs j s t := ⟨h.1, fun q hq => by obtain ⟨d, h1, h2, h3⟩ := h.2 q hq; exact ⟨d, h1, h2.low hb, h3⟩⟩
theorem ItO.snoc {B : Nat} {w : World} {xs : List Value} {j : Nat} {s t : Nat → Bool} (h : ItO B w xs j s t) (d : Value) (c b : Bool) (hd : IsD d) (hb : BH B w d b) : ItO B w (xs ++ [.nilIface, .int .i32 0, d, .int .i32 0, .nilIface, .int .i32 0, .int .i32 0, .int .i32 0, .bool false, .bool c, .bool false]) (j + 1) (fun q => if q = j then c else s q) (fun q => if q = j then b else t q) := by
  refine ⟨by simp [h.1]; omega, fun q hq => ?_⟩
  by_cases e : q = j
  · subst e
    have l := h.1
    refine ⟨d, hd, by simpa using hb, ?_, ?_, ?_, ?_, ?_, ?_, ?_, ?_, ?_, ?_, ?_⟩ <;> (rw [List.getElem?_append_right (by omega), l]; simp)
  · obtain ⟨d', h1, h2, x0, x1, x2, x3, x4, x5, x6, x7, x8, x9, x10⟩ := h.2 q (by omega)
    have l := h.1
    refine ⟨d', h1, by simpa [e] using h2, ?_, ?_, ?_, ?_, ?_, ?_, ?_, ?_, ?_, ?_, ?_⟩ <;> (rw [List.getElem?_append_left (by omega)]; first | assumption | (simp only [e, if_false]; assumption))
theorem Ex.end {R r : Nat} {wr : World} (hr : r < R) (v0 v1 : Value) (o : Obj) : Ex R wr (((wr.setCell ⟨r, 0, none⟩ v0).setCell ⟨r, 1, none⟩ v1).alloc o) := (((Ex.refl R wr).set hr 0 v0).set hr 1 v1).alloc o
theorem endAt {r : Nat} {wr : World} (v0 v1 : Value) (cs : Array Value) (t : TypeId) : At (((wr.setCell ⟨r, 0, none⟩ v0).setCell ⟨r, 1, none⟩ v1).alloc (.cells cs t)) wr.heap.size t cs := by
  have h := heap_alloc_new ((wr.setCell ⟨r, 0, none⟩ v0).setCell ⟨r, 1, none⟩ v1) (.cells cs t)
  unfold At
  simpa [World.setCell] using h
theorem arrEnd {g n p p' N : Nat} {w wr : World} {xs : List Value} {t : Nat → Bool} (x : Int) (v0 v1 u1 u2 u3 : Value) (lg : g < w.heap.size) (hP : Pos g wr p') (HW : wr.ownsRow (w.heap.size + 1) 91 5 (.slice (some ⟨w.heap.size + 1, 0, none⟩) N N) N xs) (HT : ItA (w.heap.size + 1 + 1) wr xs N t) (HX : Xg g w wr) (hL : w.heap.size + 1 + 1 ≤ wr.heap.size) (hN : N ≤ 7) (hp1 : p ≤ p') (hp2 : p' ≤ n) :
    BBP g n p w (.returned (.tuple #[.agg #[.iface 92 (.pointer (some ⟨wr.heap.size, 0, none⟩)), .int .i32 0], .int .i64 x])) (((wr.setCell ⟨w.heap.size, 0, none⟩ v0).setCell ⟨w.heap.size, 1, none⟩ v1).alloc (.cells #[.slice (some ⟨w.heap.size + 1, 0, none⟩) N N, u1, u2, u3] 94)) := by
  refine ⟨_, _, anyB t N, p', rfl, ⟨_, _, rfl⟩, bhArr w.heap.size wr.heap.size (w.heap.size + 1) N N xs t (w.heap.size + 1) _ (by omega) (by omega) (by rw [(endAt v0 v1 _ 94).cell]; rfl) ((Ex.end (by omega) v0 v1 _).own (Nat.le_refl _) HW) ((HT.ex (Ex.end (by omega) v0 v1 _)).low (by omega)) (by omega), ((hP.set (by omega) _ _).set (by omega) _ _).alloc _, hp1, hp2, ((HX.set (.inr (Nat.le_refl _)) _ _).set (.inr (Nat.le_refl _)) _ _).alloc _⟩
theorem objEnd {g n p p' N : Nat} {w wr : World} {xs : List Value} {f t : Nat → Bool} (x : Int) (v0 v1 u1 u2 : Value) (lg : g < w.heap.size) (hP : Pos g wr p') (HW : wr.ownsRow (w.heap.size + 1) 82 11 (.slice (some ⟨w.heap.size + 1, 0, none⟩) N N) N xs) (HT : ItO (w.heap.size + 1 + 1) wr xs N f t) (HX : Xg g w wr) (hL : w.heap.size + 1 + 1 ≤ wr.heap.size) (hN : N ≤ 7) (hp1 : p ≤ p') (hp2 : p' ≤ n) :
    BBP g n p w (.returned (.tuple #[.agg #[.iface 86 (.pointer (some ⟨wr.heap.size, 0, none⟩)), .int .i32 0], .int .i64 x])) (((wr.setCell ⟨w.heap.size, 0, none⟩ v0).setCell ⟨w.heap.size, 1, none⟩ v1).alloc (.cells #[.slice (some ⟨w.heap.size + 1, 0, none⟩) N N, u1, u2] 88)) := by
  refine ⟨_, _, anyB (fun q => f q || t q) N, p', rfl, ⟨_, _, rfl⟩, bhObj w.heap.size wr.heap.size (w.heap.size + 1) N N xs f t (w.heap.size + 1) _ (by omega) (by omega) (by rw [(endAt v0 v1 _ 88).cell]; rfl) ((Ex.end (by omega) v0 v1 _).own (Nat.le_refl _) HW) ((HT.ex (Ex.end (by omega) v0 v1 _)).low (by omega)) (by omega), ((hP.set (by omega) _ _).set (by omega) _ _).alloc _, hp1, hp2, ((HX.set (.inr (Nat.le_refl _)) _ _).set (.inr (Nat.le_refl _)) _ _).alloc _⟩

set_option maxRecDepth 100000 in
set_option maxHeartbeats 4000000 in
theorem bb (g n cap : Nat) (a : Option Addr) (zs : List Int) (hn : n ≤ 65536) (hz : ∀ i, 0 ≤ zs.getD i 0 ∧ zs.getD i 0 ≤ 255) : ∀ (m p : Nat) (w : World), n - p ≤ m → p ≤ n → Ops g w a n zs → Pos g w p → Calls Try.prog 21 #[.slice a n cap, .pointer (some ⟨g, 0, none⟩)] w (BBP g n p w) := by
  intro m
  induction m with
  | zero =>
    intro p w hm hp hO hP
    obtain rfl : p = n := by omega
    obtain ⟨h0, f0⟩ := hP
    have lg : g < w.heap.size := World.block_lt_of_cell? _ _ h0
    clear hO
    go_enter Try.func21, Try.ntmps21
    go_wp2_with fail
    exact bodyPost_ret (v := .tuple #[.agg #[.iface 83 (.pointer (some ⟨w.heap.size + 1, 0, none⟩)), .int .i32 0], .int .i64 0]) (by simp [results, Try.results21, go_sem, *]) rfl ⟨_, _, _, _, rfl, ⟨_, _, rfl⟩, bhId _ _ _, ⟨by simp [go_sem, *], by simp [go_sem, *]⟩, Nat.le_refl _, Nat.le_refl _, (by repeat (first | with_reducible exact Xg.refl _ _ | (with_reducible refine Xg.alloc ?_ _) | (with_reducible refine Xg.set ?_ (by first | exact .inl rfl | (right; simp; try omega)) _ _)))⟩
  | succ m ih =>
    intro p w hm hp hO hP
    by_cases hpn : p < n
    · obtain ⟨B, off, rfl, hBg, hc⟩ := hO (by omega)
      have c0 := hc p hpn
      obtain ⟨z0, z1⟩ := hz p
      obtain ⟨z, hzz⟩ : ∃ z, z = zs.getD p 0 := ⟨_, rfl⟩
      rw [← hzz] at c0 z0 z1
      clear hzz hc
      have HO := Lib.hid hO
      obtain ⟨h0, f0⟩ := hP
      have lg : g < w.heap.size := World.block_lt_of_cell? _ _ h0
      have lB : B < w.heap.size := World.block_lt_of_cell? _ _ c0
      have p0 : (0 : Int) ≤ (p : Int) := Int.natCast_nonneg _
      have p1 : (p : Int) < (n : Int) := by omega
      clear hO
      obtain ⟨N, hN, hN7⟩ := and7 z z0 z1
      obtain ⟨i1, hi1, hy0, hy1, hy2⟩ := info_parts info91
      obtain ⟨i2, hi2, hv0, hv1, hv2⟩ := info_parts info82
      have I1 := Lib.hid hi1
      have I10 := Lib.hid hy0
      have I11 := Lib.hid hy1
      have I12 := Lib.hid hy2
      have I2 := Lib.hid hi2
      have I20 := Lib.hid hv0
      have I21 := Lib.hid hv1
      have I22 := Lib.hid hv2
      clear hi1 hy0 hy1 hy2 hi2 hv0 hv1 hv2
      have hP1 : Pos g ((w.setCell ⟨g, 0, none⟩ (.int .i64 ((p : Int) + 1))).alloc (.cells #[.nilIface, .int .i32 0] 75)) (p + 1) := ⟨by simp [go_sem, *], by simp [go_sem, *]⟩
      have hX1 : Xg g w ((w.setCell ⟨g, 0, none⟩ (.int .i64 ((p : Int) + 1))).alloc (.cells #[.nilIface, .int .i32 0] 75)) := ((Xg.refl g w).set (.inl rfl) _ _).alloc _
      have HP1 := Lib.hid hP1
      have HX1 := Lib.hid hX1
      clear hP1 hX1
      rcases and3 z z0 z1 with hk | hk | hk | hk
      · go_enter Try.func21, Try.ntmps21
        go_wp2_with fail
        exact bodyPost_ret (v := .tuple #[.agg #[.iface 83 (.pointer (some ⟨w.heap.size + 1, 0, none⟩)), .int .i32 0], .int .i64 0]) (by simp [results, Try.results21, go_sem, *]) rfl ⟨_, _, _, p + 1, rfl, ⟨_, _, rfl⟩, bhId _ _ _, ⟨by simp [go_sem, *], by simp [go_sem, *]⟩, by omega, by omega, (by repeat (first | with_reducible exact Xg.refl _ _ | (with_reducible refine Xg.alloc ?_ _) | (with_reducible refine Xg.set ?_ (by first | exact .inl rfl | (right; simp; try omega)) _ _)))⟩
      · go_enter Try.func21, Try.ntmps21
        go_wp2_with fail
        exact bodyPost_ret (v := .tuple #[.agg #[.iface 169 (.pointer (some ⟨w.heap.size + 1, 0, none⟩)), .int .i32 0], .int .i64 0]) (by simp [results, Try.results21, go_sem, *]) rfl ⟨_, _, _, p + 1, rfl, ⟨_, _, rfl⟩, bhMi _ _ _, ⟨by simp [go_sem, *], by simp [go_sem, *]⟩, by omega, by omega, (by repeat (first | with_reducible exact Xg.refl _ _ | (with_reducible refine Xg.alloc ?_ _) | (with_reducible refine Xg.set ?_ (by first | exact .inl rfl | (right; simp; try omega)) _ _)))⟩
      · go_enter Try.func21, Try.ntmps21
        go_wp2_with (with_reducible refine wpList_make_own _ (o := ⟨some 62, _, _, _, _, _⟩) rfl _ _ 89 rfl (w.heap.size + 1) 91 i1 _ 5 Try.underlying89 I1.out I10.out I11.out .i64 .i64 _ N rfl rfl ?e1 ?e2 ?e3 ?e4 ?_)
        case e1 => rfl
        case e2 => rw [I12.out]; omega
        case e3 => unfold maxLen; omega
        case e4 => simp
        intro w1 hown hgr
        go_wp2_with fail
        go_loopw [8, 9, 10] (fun s tot i wr => AR g n p N w (some ⟨B, off, none⟩) zs (w.heap.size + 1) s tot i wr) (fun s tot i _ => N - (intOf i).toNat)
        case atStart =>
          have hz0 := (World.ownsRow.lt hown (w.heap.size + 1) rfl).2
          exact ⟨0, 0, p + 1, [], fun _ => false, by omega, rfl, rfl, rfl, by omega, by omega, Lib.hid (HP1.out.grown hgr (by simp)), Lib.hid hown, Lib.hid ⟨rfl, fun q hq => absurd hq (by omega)⟩, Lib.hid ((hgr.block _ (by simp) (by simp)).trans (by have hh := heap_alloc_new (w.setCell ⟨g, 0, none⟩ (.int .i64 ((p : Int) + 1))) (.cells #[.nilIface, .int .i32 0] 75); rw [show (w.setCell ⟨g, 0, none⟩ (.int .i64 ((p : Int) + 1))).heap.size = w.heap.size from by simp [World.setCell]] at hh; exact hh)), Lib.hid (HX1.out.grown hgr (fun k hk => by cases hk)), by omega, Lib.hid (HO.out.xg (HX1.out.grown hgr (fun k hk => by cases hk)))⟩
        case round =>
          obtain ⟨j, x, p', xs, t, hj, rfl, rfl, rfl, hp1, hp2, HP, HW, HT, HA, HX, hL, HO1⟩ := hrel
          have r0 : wr.cell? ⟨w.heap.size, 0, none⟩ = some .nilIface := by rw [HA.out.cell]; rfl
          have r1 : wr.cell? ⟨w.heap.size, 1, none⟩ = some (.int .i32 0) := by rw [HA.out.cell]; rfl
          have q0 := HA.out.frozen 0
          have q1 := HA.out.frozen 1
          have lr := HA.out.lt
          by_cases hjn : j < N
          · clear r0 r1 q0 q1
            go_wp2_with fail
            refine (ih p' wr (by omega) hp1 HO1.out HP.out).mono ?_
            rintro e w2 ⟨d, tot, tq, p2, rfl, ⟨ty, bq, rfl⟩, hbh, hpos, hp3, hp4, hx⟩
            have HX2 := Lib.hid hx
            have HB2 := Lib.hid hbh
            have HP2 := Lib.hid hpos
            have OWN := Lib.hid (hx.own (by omega) HW.out)
            clear hx hbh hpos HP HW
            go_wp2_with (with_reducible refine wpList_append_fits _ (o := ⟨some 78, _, _, _, _, _⟩) rfl _ _ 89 rfl (w.heap.size + 1) 91 i1 5 Try.underlying89 I1.out I11.out (w.heap.size + 1) j N xs rfl ((OWN.out.alloc _).alloc _) ⟨w2.heap.size + 1, 0, none⟩ 1 1 [.iface ty (.pointer (some ⟨bq, 0, none⟩)), .int .i32 0, .nilIface, .int .i32 0, .int .i32 0] rfl rfl ?e2 ?e3 ?e4 ?_)
            case e2 => have hh := heap_alloc_new (w2.alloc (.cells #[.iface ty (.pointer (some ⟨bq, 0, none⟩)), .int .i32 0] 75)) (.cells #[.iface ty (.pointer (some ⟨bq, 0, none⟩)), .int .i32 0, .nilIface, .int .i32 0, .int .i32 0] 91); rw [show (w2.alloc (.cells #[.iface ty (.pointer (some ⟨bq, 0, none⟩)), .int .i32 0] 75)).heap.size = w2.heap.size + 1 from by simp] at hh; exact World.news_of_block (cs := #[.iface ty (.pointer (some ⟨bq, 0, none⟩)), .int .i32 0, .nilIface, .int .i32 0, .int .i32 0]) (t := 91) (fr := (0, 0)) hh
            case e3 => simp [Value.oneCell']
            case e4 => omega
            intro w3 hown3 hgr3
            have HO3 := Lib.hid hown3
            have HG3 := Lib.hid hgr3
            clear hown3 hgr3
            go_wp2_with fail
            go_roundw
            case measure => simp [intOf]; omega
            case rel =>
              have hgr := HG3.out
              have hxx : Xg g w w3 := (((HX.out.trans HX2.out).alloc _).alloc _).grown hgr (fun k hk => by simp only [Option.some.injEq] at hk; omega)
              have hex : Ex (w.heap.size + 1 + 1) w2 w3 := (((Ex.refl _ w2).alloc _).alloc _).grown hgr (fun k hk => by simp only [Option.some.injEq] at hk; omega)
              have hsz := hgr.size
              simp at hsz
              have h2w := HX2.out.1
              refine ⟨j + 1, _, p2, _, _, by omega, rfl, rfl, by go_num, hp4, by omega, Lib.hid (((HP2.out.alloc _).alloc _).grown hgr (by simp; omega)), Lib.hid HO3.out, Lib.hid (((HT.out.ex (Ex.xg HX2.out (by omega))).ex hex).snoc _ tq ⟨_, _, rfl⟩ ((HB2.out.low (by omega)).ex hex)), Lib.hid ?_, Lib.hid hxx, by omega, Lib.hid (HO.out.xg hxx)⟩
              exact (hgr.block _ (by simp; omega) (by simp)).trans (((HX2.out.at (by omega) HA.out).alloc _).alloc _)
          · obtain rfl : j = N := by omega
            go_wp2_with fail
            exact bodyPost_ret (v := .tuple #[.agg #[.iface 92 (.pointer (some ⟨wr.heap.size, 0, none⟩)), .int .i32 0], .int .i64 x]) (by simp [results, Try.results21, go_sem, *]) rfl (arrEnd x _ _ _ _ _ lg HP.out HW.out HT.out HX.out hL hN7 (by omega) hp1)
      · go_enter Try.func21, Try.ntmps21
        go_wp2_with (with_reducible refine wpList_make_own _ (o := ⟨some 92, _, _, _, _, _⟩) rfl _ _ 80 rfl (w.heap.size + 1) 82 i2 _ 11 Try.underlying80 I2.out I20.out I21.out .i64 .i64 _ N rfl rfl ?e1 ?e2 ?e3 ?e4 ?_)
        case e1 => rfl
        case e2 => rw [I22.out]; omega
        case e3 => unfold maxLen; omega
        case e4 => simp
        intro w1 hown hgr
        go_wp2_with fail
        go_loopw [13, 14, 15] (fun s tot i wr => OR g n p N w (some ⟨B, off, none⟩) zs (w.heap.size + 1) s tot i wr) (fun s tot i _ => N - (intOf i).toNat)
        case atStart =>
          have hz0 := (World.ownsRow.lt hown (w.heap.size + 1) rfl).2
          exact ⟨0, 0, p + 1, [], fun _ => false, fun _ => false, by omega, rfl, rfl, rfl, by omega, by omega, Lib.hid (HP1.out.grown hgr (by simp)), Lib.hid hown, Lib.hid ⟨rfl, fun q hq => absurd hq (by omega)⟩, Lib.hid ((hgr.block _ (by simp) (by simp)).trans (by have hh := heap_alloc_new (w.setCell ⟨g, 0, none⟩ (.int .i64 ((p : Int) + 1))) (.cells #[.nilIface, .int .i32 0] 75); rw [show (w.setCell ⟨g, 0, none⟩ (.int .i64 ((p : Int) + 1))).heap.size = w.heap.size from by simp [World.setCell]] at hh; exact hh)), Lib.hid (HX1.out.grown hgr (fun k hk => by cases hk)), by omega, Lib.hid (HO.out.xg (HX1.out.grown hgr (fun k hk => by cases hk)))⟩
        case round =>
          obtain ⟨j, x, p', xs, f, t, hj, rfl, rfl, rfl, hp1, hp2, HP, HW, HT, HA, HX, hL, HO1⟩ := hrel
          by_cases hjn : j < N
          · have P0 := HP.out.1
            have lgw : g < wr.heap.size := World.block_lt_of_cell? _ _ P0
            by_cases hpn2 : p' < n
            · obtain ⟨B3, off3, e3, hB3, hc3⟩ := HO1.out (by omega)
              have c3 := hc3 p' hpn2
              simp only [Option.some.injEq, Addr.mk.injEq, and_true] at e3
              obtain ⟨rfl, rfl⟩ := e3
              obtain ⟨y0, y1⟩ := hz p'
              obtain ⟨y, hyy⟩ : ∃ y, y = zs.getD p' 0 := ⟨_, rfl⟩
              rw [← hyy] at c3 y0 y1
              clear hyy hc3
              have lB3 : B < wr.heap.size := World.block_lt_of_cell? _ _ c3
              have pp0 : (0 : Int) ≤ (p' : Int) := Int.natCast_nonneg _
              have pp1 : (p' : Int) < (n : Int) := by omega
              cases hfl : (bits .and .u8 y 32 != 0)
              · go_wp2_with fail
                refine (ih p' wr (by omega) hp1 HO1.out HP.out).mono ?_
                rintro e w2 ⟨d, tot, tq, p2, rfl, ⟨ty, bq, rfl⟩, hbh, hpos, hp3, hp4, hx⟩
                have HX2 := Lib.hid hx
                have HB2 := Lib.hid hbh
                have HP2 := Lib.hid hpos
                have OWN := Lib.hid (hx.own (by omega) HW.out)
                clear hx hbh hpos HP HW P0 lgw c3 lB3
                go_wp2_with (with_reducible refine wpList_append_fits _ (o := ⟨some 128, _, _, _, _, _⟩) rfl _ _ 80 rfl (w.heap.size + 1) 82 i2 11 Try.underlying80 I2.out I21.out (w.heap.size + 1) j N xs rfl ((OWN.out.alloc _).alloc _) ⟨w2.heap.size + 1, 0, none⟩ 1 1 [.nilIface, .int .i32 0, .iface ty (.pointer (some ⟨bq, 0, none⟩)), .int .i32 0, .nilIface, .int .i32 0, .int .i32 0, .int .i32 0, .bool false, .bool false, .bool false] rfl rfl ?e2 ?e3 ?e4 ?_)
                case e2 => have hh := heap_alloc_new (w2.alloc (.cells #[.iface ty (.pointer (some ⟨bq, 0, none⟩)), .int .i32 0] 75)) (.cells #[.nilIface, .int .i32 0, .iface ty (.pointer (some ⟨bq, 0, none⟩)), .int .i32 0, .nilIface, .int .i32 0, .int .i32 0, .int .i32 0, .bool false, .bool false, .bool false] 82); rw [show (w2.alloc (.cells #[.iface ty (.pointer (some ⟨bq, 0, none⟩)), .int .i32 0] 75)).heap.size = w2.heap.size + 1 from by simp] at hh; exact World.news_of_block (cs := #[.nilIface, .int .i32 0, .iface ty (.pointer (some ⟨bq, 0, none⟩)), .int .i32 0, .nilIface, .int .i32 0, .int .i32 0, .int .i32 0, .bool false, .bool false, .bool false]) (t := 82) (fr := (0, 0)) hh
                case e3 => simp [Value.oneCell']
                case e4 => omega
                intro w3 hown3 hgr3
                have HO3 := Lib.hid hown3
                have HG3 := Lib.hid hgr3
                clear hown3 hgr3
                go_wp2_with fail
                go_roundw
                case measure => simp [intOf]; omega
                case rel =>
                  have hgr := HG3.out
                  have hxx : Xg g w w3 := (((HX.out.trans HX2.out).alloc _).alloc _).grown hgr (fun k hk => by simp only [Option.some.injEq] at hk; omega)
                  have hex : Ex (w.heap.size + 1 + 1) w2 w3 := (((Ex.refl _ w2).alloc _).alloc _).grown hgr (fun k hk => by simp only [Option.some.injEq] at hk; omega)
                  have hsz := hgr.size
                  simp at hsz
                  have h2w := HX2.out.1
                  refine ⟨j + 1, _, p2, _, _, _, by omega, rfl, rfl, by go_num, hp4, by omega, Lib.hid (((HP2.out.alloc _).alloc _).grown hgr (by simp; omega)), Lib.hid HO3.out, Lib.hid (((HT.out.ex (Ex.xg HX2.out (by omega))).ex hex).snoc _ false tq ⟨_, _, rfl⟩ ((HB2.out.low (by omega)).ex hex)), Lib.hid ?_, Lib.hid hxx, by omega, Lib.hid (HO.out.xg hxx)⟩
                  exact (hgr.block _ (by simp; omega) (by simp)).trans (((HX2.out.at (by omega) HA.out).alloc _).alloc _)
              · go_wp2_with fail
                refine (ih p' wr (by omega) hp1 HO1.out HP.out).mono ?_
                rintro e w2 ⟨d, tot, tq, p2, rfl, ⟨ty, bq, rfl⟩, hbh, hpos, hp3, hp4, hx⟩
                have HX2 := Lib.hid hx
                have HB2 := Lib.hid hbh
                have HP2 := Lib.hid hpos
                have OWN := Lib.hid (hx.own (by omega) HW.out)
                clear hx hbh hpos HP HW P0 lgw c3 lB3
                go_wp2_with (with_reducible refine wpList_append_fits _ (o := ⟨some 128, _, _, _, _, _⟩) rfl _ _ 80 rfl (w.heap.size + 1) 82 i2 11 Try.underlying80 I2.out I21.out (w.heap.size + 1) j N xs rfl ((OWN.out.alloc _).alloc _) ⟨w2.heap.size + 1, 0, none⟩ 1 1 [.nilIface, .int .i32 0, .iface ty (.pointer (some ⟨bq, 0, none⟩)), .int .i32 0, .nilIface, .int .i32 0, .int .i32 0, .int .i32 0, .bool false, .bool true, .bool false] rfl rfl ?e2 ?e3 ?e4 ?_)
                case e2 => have hh := heap_alloc_new (w2.alloc (.cells #[.iface ty (.pointer (some ⟨bq, 0, none⟩)), .int .i32 0] 75)) (.cells #[.nilIface, .int .i32 0, .iface ty (.pointer (some ⟨bq, 0, none⟩)), .int .i32 0, .nilIface, .int .i32 0, .int .i32 0, .int .i32 0, .bool false, .bool true, .bool false] 82); rw [show (w2.alloc (.cells #[.iface ty (.pointer (some ⟨bq, 0, none⟩)), .int .i32 0] 75)).heap.size = w2.heap.size + 1 from by simp] at hh; exact World.news_of_block (cs := #[.nilIface, .int .i32 0, .iface ty (.pointer (some ⟨bq, 0, none⟩)), .int .i32 0, .nilIface, .int .i32 0, .int .i32 0, .int .i32 0, .bool false, .bool true, .bool false]) (t := 82) (fr := (0, 0)) hh
                case e3 => simp [Value.oneCell']
                case e4 => omega
                intro w3 hown3 hgr3
                have HO3 := Lib.hid hown3
                have HG3 := Lib.hid hgr3
                clear hown3 hgr3
                go_wp2_with fail
                go_roundw
                case measure => simp [intOf]; omega
                case rel =>
                  have hgr := HG3.out
                  have hxx : Xg g w w3 := (((HX.out.trans HX2.out).alloc _).alloc _).grown hgr (fun k hk => by simp only [Option.some.injEq] at hk; omega)
                  have hex : Ex (w.heap.size + 1 + 1) w2 w3 := (((Ex.refl _ w2).alloc _).alloc _).grown hgr (fun k hk => by simp only [Option.some.injEq] at hk; omega)
                  have hsz := hgr.size
                  simp at hsz
                  have h2w := HX2.out.1
                  refine ⟨j + 1, _, p2, _, _, _, by omega, rfl, rfl, by go_num, hp4, by omega, Lib.hid (((HP2.out.alloc _).alloc _).grown hgr (by simp; omega)), Lib.hid HO3.out, Lib.hid (((HT.out.ex (Ex.xg HX2.out (by omega))).ex hex).snoc _ true tq ⟨_, _, rfl⟩ ((HB2.out.low (by omega)).ex hex)), Lib.hid ?_, Lib.hid hxx, by omega, Lib.hid (HO.out.xg hxx)⟩
                  exact (hgr.block _ (by simp; omega) (by simp)).trans (((HX2.out.at (by omega) HA.out).alloc _).alloc _)
            · obtain rfl : p' = n := by omega
              go_wp2_with fail
              refine (ih p' wr (by omega) hp1 HO1.out HP.out).mono ?_
              rintro e w2 ⟨d, tot, tq, p2, rfl, ⟨ty, bq, rfl⟩, hbh, hpos, hp3, hp4, hx⟩
              have HX2 := Lib.hid hx
              have HB2 := Lib.hid hbh
              have HP2 := Lib.hid hpos
              have OWN := Lib.hid (hx.own (by omega) HW.out)
              clear hx hbh hpos HP HW P0 lgw 
              go_wp2_with (with_reducible refine wpList_append_fits _ (o := ⟨some 128, _, _, _, _, _⟩) rfl _ _ 80 rfl (w.heap.size + 1) 82 i2 11 Try.underlying80 I2.out I21.out (w.heap.size + 1) j N xs rfl ((OWN.out.alloc _).alloc _) ⟨w2.heap.size + 1, 0, none⟩ 1 1 [.nilIface, .int .i32 0, .iface ty (.pointer (some ⟨bq, 0, none⟩)), .int .i32 0, .nilIface, .int .i32 0, .int .i32 0, .int .i32 0, .bool false, .bool false, .bool false] rfl rfl ?e2 ?e3 ?e4 ?_)
              case e2 => have hh := heap_alloc_new (w2.alloc (.cells #[.iface ty (.pointer (some ⟨bq, 0, none⟩)), .int .i32 0] 75)) (.cells #[.nilIface, .int .i32 0, .iface ty (.pointer (some ⟨bq, 0, none⟩)), .int .i32 0, .nilIface, .int .i32 0, .int .i32 0, .int .i32 0, .bool false, .bool false, .bool false] 82); rw [show (w2.alloc (.cells #[.iface ty (.pointer (some ⟨bq, 0, none⟩)), .int .i32 0] 75)).heap.size = w2.heap.size + 1 from by simp] at hh; exact World.news_of_block (cs := #[.nilIface, .int .i32 0, .iface ty (.pointer (some ⟨bq, 0, none⟩)), .int .i32 0, .nilIface, .int .i32 0, .int .i32 0, .int .i32 0, .bool false, .bool false, .bool false]) (t := 82) (fr := (0, 0)) hh
              case e3 => simp [Value.oneCell']
              case e4 => omega
              intro w3 hown3 hgr3
              have HO3 := Lib.hid hown3
              have HG3 := Lib.hid hgr3
              clear hown3 hgr3
              go_wp2_with fail
              go_roundw
              case measure => simp [intOf]; omega
              case rel =>
                have hgr := HG3.out
                have hxx : Xg g w w3 := (((HX.out.trans HX2.out).alloc _).alloc _).grown hgr (fun k hk => by simp only [Option.some.injEq] at hk; omega)
                have hex : Ex (w.heap.size + 1 + 1) w2 w3 := (((Ex.refl _ w2).alloc _).alloc _).grown hgr (fun k hk => by simp only [Option.some.injEq] at hk; omega)
                have hsz := hgr.size
                simp at hsz
                have h2w := HX2.out.1
                refine ⟨j + 1, _, p2, _, _, _, by omega, rfl, rfl, by go_num, hp4, by omega, Lib.hid (((HP2.out.alloc _).alloc _).grown hgr (by simp; omega)), Lib.hid HO3.out, Lib.hid (((HT.out.ex (Ex.xg HX2.out (by omega))).ex hex).snoc _ false tq ⟨_, _, rfl⟩ ((HB2.out.low (by omega)).ex hex)), Lib.hid ?_, Lib.hid hxx, by omega, Lib.hid (HO.out.xg hxx)⟩
                exact (hgr.block _ (by simp; omega) (by simp)).trans (((HX2.out.at (by omega) HA.out).alloc _).alloc _)
          · have r0 : wr.cell? ⟨w.heap.size, 0, none⟩ = some .nilIface := by rw [HA.out.cell]; rfl
            have r1 : wr.cell? ⟨w.heap.size, 1, none⟩ = some (.int .i32 0) := by rw [HA.out.cell]; rfl
            have q0 := HA.out.frozen 0
            have q1 := HA.out.frozen 1
            have lr := HA.out.lt
            obtain rfl : j = N := by omega
            go_wp2_with fail
            exact bodyPost_ret (v := .tuple #[.agg #[.iface 86 (.pointer (some ⟨wr.heap.size, 0, none⟩)), .int .i32 0], .int .i64 x]) (by simp [results, Try.results21, go_sem, *]) rfl (objEnd x _ _ _ _ lg HP.out HW.out HT.out HX.out hL hN7 (by omega) hp1)
    · obtain rfl : p = n := by omega
      obtain ⟨h0, f0⟩ := hP
      have lg : g < w.heap.size := World.block_lt_of_cell? _ _ h0
      clear hO
      go_enter Try.func21, Try.ntmps21
      go_wp2_with fail
      exact bodyPost_ret (v := .tuple #[.agg #[.iface 83 (.pointer (some ⟨w.heap.size + 1, 0, none⟩)), .int .i32 0], .int .i64 0]) (by simp [results, Try.results21, go_sem, *]) rfl ⟨_, _, _, _, rfl, ⟨_, _, rfl⟩, bhId _ _ _, ⟨by simp [go_sem, *], by simp [go_sem, *]⟩, Nat.le_refl _, Nat.le_refl _, (by repeat (first | with_reducible exact Xg.refl _ _ | (with_reducible refine Xg.alloc ?_ _) | (with_reducible refine Xg.set ?_ (by first | exact .inl rfl | (right; simp; try omega)) _ _)))⟩
end Go.Proofs.Ytjcblmbndkacgaa
