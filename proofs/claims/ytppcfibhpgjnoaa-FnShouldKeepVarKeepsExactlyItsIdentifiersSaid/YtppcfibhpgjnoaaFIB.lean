/- Proved here: the contract of zzDecodeBinding. Conditions: the code's bytes and the leaves' row, as stated. -/
import Derived.Test.YtppcfibhpgjnoaaFIA
import Derived.WalkKit
import Derived.WalkSpells
import Derived.WalkLawsBesides
import Derived.Lib.Hide
import Derived.Lib.SliceRun
import Derived.Deep.RegionWith
import Derived.OwnWalk
import Derived.Laws.OwnMore
import Derived.Deep.AppendLies
namespace Go.Proofs.Ytppcfibhpgjnoaa
open Go.RowKit
set_option linter.unusedSimpArgs false
set_option linter.unusedVariables false

theorem infoAB : (Try.prog.info? 54).map (fun i => (i.zero, i.size, i.bytes)) = some (some (.agg #[.nilIface, .int .i32 0, .nilIface, .int .i32 0, .int .i32 0]), 5, 56) := by kernel_rfl
theorem infoPB : (Try.prog.info? 60).map (fun i => (i.zero, i.size, i.bytes)) = some (some (.agg #[.nilIface, .int .i32 0, .nilIface, .int .i32 0, .nilIface, .int .i32 0, .int .i32 0, .int .i32 0, .bool false, .bool false, .bool false]), 11, 88) := by kernel_rfl
theorem infoI : (Try.prog.info? 21).map (fun i => (i.zero, i.size, i.bytes)) = some (some (.int .i32 0), 1, 4) := by kernel_rfl
/-- The code: n bytes at a block below base. -/
def Ops (base : Nat) (w : World) (a : Option Addr) (n : Nat) (zs : List Int) : Prop := 0 < n → ∃ B off, a = some ⟨B, off, none⟩ ∧ B < base ∧ ∀ i, i < n → w.cell? ⟨B, off + i, none⟩ = some (.int .u8 (zs.getD i 0))
theorem Ops.keep {base : Nat} {w W : World} {a : Option Addr} {n : Nat} {zs : List Int} (h : Ops base w a n zs) (hx : Below base w W) : Ops base W a n zs := fun hp => by
  obtain ⟨B, off, e, hb, hc⟩ := h hp
  exact ⟨B, off, e, hb, fun i hi => (hx.cell (p := ⟨B, off + i, none⟩) hb).trans (hc i hi)⟩
def locs (L : List (Nat × Int)) : List Value := L.map fun q => .int .i32 q.2
theorem locs_app (a b : List (Nat × Int)) : locs (a ++ b) = locs a ++ locs b := by simp [locs]
theorem ownNe {w : World} {B1 B2 : Nat} {e1 e2 : TypeId} {s1 s2 : Nat} {v1 v2 : Value} {n1 n2 : Nat} {x1 x2 : List Value} (h1 : w.ownsRow B1 e1 s1 v1 n1 x1) (h2 : w.ownsRow B2 e2 s2 v2 n2 x2) (he : e1 ≠ e2) {k : Nat} (hk : v1.ownBlock = some k) : v2.ownBlock ≠ some k := by
  intro hk2
  obtain ⟨_, ⟨rfl, _⟩ | ⟨g, _, cur, rfl, _, hg, _⟩⟩ := h1
  · cases hk
  obtain ⟨_, ⟨rfl, _⟩ | ⟨g2, _, cur2, rfl, _, hg2, _⟩⟩ := h2
  · cases hk2
  simp only [Value.ownBlock, Option.some.injEq] at hk hk2
  subst hk; subst hk2
  rw [hg] at hg2
  simp only [Option.some.injEq, Obj.cells.injEq] at hg2
  exact he hg2.2.1
def DP (base n p : Nat) (lv : Value) (lm : Nat) (ys : List Value) (W : World) (e : Ending) (w' : World) : Prop :=
  ∃ (d : Value) (l : Int) (p' : Nat) (S : Nat → Prop) (lv' : Value) (L : List (Nat × Int)), e = .returned (.tuple #[.agg #[d, .int .i32 l], .int .i64 p', lv']) ∧ IsD d ∧ FI S w' d l L ∧ (∀ k, S k → W.heap.size ≤ k) ∧ p ≤ p' ∧ p' ≤ n ∧ (p < n → p < p') ∧ L.length ≤ p' - p ∧
    w'.ownsRow base 21 1 lv' (lm + L.length) (ys ++ locs L) ∧ W.grownBy w' lv.ownBlock ∧ Lies lv lv' W ∧ (∀ k, lv'.ownBlock = some k → ¬ S k)
set_option maxRecDepth 100000 in
theorem nextIn (B off n cap p : Nat) (z : Int) (W : World) (hp : p < n) (hn : n ≤ 1048576) (hc : W.cell? ⟨B, off + p, none⟩ = some (.int .u8 z)) :
    Calls Try.prog 42 #[.slice (some ⟨B, off, none⟩) n cap, .int .i64 p] W fun e w' => e = .returned (.tuple #[.int .u8 z, .int .i64 ((p + 1 : Nat) : Int)]) ∧ W = w' := by
  have lB : B < W.heap.size := World.block_lt_of_cell? _ _ hc
  have p1 : (p : Int) < (n : Int) := by omega
  have p0 : (0 : Int) ≤ (p : Int) := by omega
  go_enter Try.func42, Try.ntmps42
  go_wp2_with fail
  go_ret2
  exact ⟨rfl, rfl⟩
set_option maxRecDepth 100000 in
theorem nextOut (a : Option Addr) (n cap p : Nat) (W : World) (hp : n ≤ p) :
    Calls Try.prog 42 #[.slice a n cap, .int .i64 p] W fun e w' => e = .returned (.tuple #[.int .u8 0, .int .i64 p]) ∧ W = w' := by
  have p1 : decide ((p : Int) < (n : Int)) = false := by simp; omega
  go_enter Try.func42, Try.ntmps42
  go_wp2_with fail
  go_ret2
  exact ⟨rfl, rfl⟩

theorem atNe {w : World} {B : Nat} {e t : TypeId} {sz : Nat} {v : Value} {n : Nat} {xs : List Value} {r : Nat} {cs : Array Value} (h : w.ownsRow B e sz v n xs) (ha : At w r t cs) (he : e ≠ t) : v.ownBlock ≠ some r := by
  intro hk
  obtain ⟨_, ⟨rfl, _⟩ | ⟨g, _, cur, rfl, _, hg, _⟩⟩ := h
  · cases hk
  simp only [Value.ownBlock, Option.some.injEq] at hk
  subst hk
  unfold At at ha
  rw [hg] at ha
  simp only [Option.some.injEq, Obj.cells.injEq] at ha
  exact he ha.2.1
theorem cat_congr {f g : Nat → List (Nat × Int)} : ∀ {k : Nat}, (∀ q, q < k → f q = g q) → cat f k = cat g k := by
  intro k
  induction k with
  | zero => intro _; rfl
  | succ k ih => intro h; rw [cat_succ, cat_succ, ih (fun q hq => h q (by omega)), h k (by omega)]
theorem missEnd {base n p p' lm : Nat} {w : World} {lv : Value} {ys : List Value} {at_ : Int} (hL : w.ownsRow base 21 1 lv lm ys) (hp : p ≤ p') (hp2 : p' ≤ n) (hp3 : p < n → p < p') (o1 o2 : Obj) (b : Nat) :
    DP base n p lv lm ys w (.returned (.tuple #[.agg #[.iface 163 (.pointer (some ⟨b, 0, none⟩)), .int .i32 at_], .int .i64 p', lv])) ((w.alloc o1).alloc o2) := by
  have hg : w.grownBy ((w.alloc o1).alloc o2) none := gAlloc (gAlloc (gRefl _ _) _) _
  refine ⟨_, at_, p', fun _ => False, lv, [], rfl, ⟨_, _, rfl⟩, fiMi _ _ _, fun k hk => hk.elim, hp, hp2, hp3, by simp, ?_, gTrans (gRefl _ _) hg (.inr (.inl rfl)), Lies.refl _ _, fun k _ hk => hk⟩
  have h := ownKeep hL (fun k hk => hg.block k (ownLt hL k hk) (by simp))
  simpa [locs] using h
theorem leafEnd {base n p lm g c : Nat} {w w1 : World} {lv : Value} {ys : List Value} {at_ : Int} (hL : w.ownsRow base 21 1 lv lm ys) (hp : p < n) (o1 o2 o3 : Obj) (u0 u1 : Value) (ho : w1.ownsRow base 21 1 (.slice (some ⟨g, 0, none⟩) (lm + 1) c) (lm + 1) (ys ++ [.int .i32 at_])) (hg : ((w.alloc o1).alloc o2).grownBy w1 lv.ownBlock) (hlie : lv.ownBlock = some g ∨ g = w.heap.size + 1 + 1) :
    DP base n p lv lm ys w (.returned (.tuple #[.agg #[.iface 165 (.pointer (some ⟨w1.heap.size, 0, none⟩)), .int .i32 at_], .int .i64 ((p + 1 : Nat) : Int), .slice (some ⟨g, 0, none⟩) (lm + 1) c])) (((w1.setCell ⟨w.heap.size, 0, none⟩ u0).setCell ⟨w.heap.size, 1, none⟩ u1).alloc o3) := by
  have z1 := hg.size
  simp at z1
  have lt1 := ownLt hL
  have hgn : g ≠ w.heap.size := by
    rcases hlie with h | h
    · have := lt1 _ h; omega
    · omega
  have hG : w.grownBy (((w1.setCell ⟨w.heap.size, 0, none⟩ u0).setCell ⟨w.heap.size, 1, none⟩ u1).alloc o3) lv.ownBlock := gAlloc (gSet (gSet (gTrans (gAlloc (gAlloc (gRefl _ _) _) _) hg (.inl rfl)) (.inl (Nat.le_refl _)) _ _) (.inl (Nat.le_refl _)) _ _) _
  refine ⟨_, at_, p + 1, fun _ => False, _, [(w1.heap.size, at_)], rfl, ⟨_, _, rfl⟩, fiId _ _ _, fun k hk => hk.elim, by omega, by omega, fun _ => by omega, by simp, ?_, hG, ?_, fun k _ hk => hk⟩
  · refine World.ownsRow.alloc (ownKeep ho (fun k hk => ?_)) _
    simp only [Value.ownBlock, Option.some.injEq] at hk
    subst hk
    rw [Below.heap_setCell _ _ _ g (by simpa using hgn), Below.heap_setCell _ _ _ g (by simpa using hgn)]
  · rcases hlie with h | h
    · exact .inl h.symm
    · exact .inr ⟨g, rfl, by omega⟩
theorem cat_snoc (Ls : Nat → List (Nat × Int)) (L : List (Nat × Int)) (j : Nat) : cat (fun q => if q = j then L else Ls q) (j + 1) = cat Ls j ++ L := by
  rw [cat_succ]
  have h : cat (fun q => if q = j then L else Ls q) j = cat Ls j := cat_congr (fun q hq => by simp; omega)
  rw [h]; simp
def DA (base n p N r : Nat) (W : World) (a : Option Addr) (zs : List Int) (lv : Value) (lm : Nat) (ys : List Value) (E SZ : Nat) (IT : (Nat → Prop) → World → List Value → Nat → (Nat → List (Nat × Int)) → Prop) (p1 l1 s i : Value) (wr : World) : Prop :=
  ∃ (j p' g c : Nat) (xs : List Value) (Ls : Nat → List (Nat × Int)) (S : Nat → Prop) (lv1 : Value), j ≤ N ∧ i = .int .i64 j ∧ p1 = .int .i64 p' ∧ p' ≤ n ∧ p < p' ∧ s = .slice (some ⟨g, 0, none⟩) j c ∧ lv1 = l1 ∧ (cat Ls j).length ≤ p' - p ∧ Hid (wr.ownsRow (r + 1) E SZ (.slice (some ⟨g, 0, none⟩) j c) j xs) ∧ Hid (IT S wr xs j Ls) ∧ Hid (∀ k, S k → r + 1 ≤ k ∧ k < wr.heap.size) ∧ Hid (¬ S g) ∧
    Hid (wr.ownsRow base 21 1 lv1 (lm + (cat Ls j).length) (ys ++ locs (cat Ls j))) ∧ Hid (∀ k, lv1.ownBlock = some k → ¬ S k) ∧ Hid (W.grownBy wr lv.ownBlock) ∧ Hid (Lies lv lv1 W) ∧ Hid (Ops base wr a n zs) ∧ Hid (At wr r 44 #[.nilIface, .int .i32 0])

theorem startDAA {base n p p' N : Nat} {w : World} {a : Option Addr} {zs : List Int} {lv : Value} {lm : Nat} {ys : List Value} (hL : w.ownsRow base 21 1 lv lm ys) (hO : Ops base w a n zs) (hB : base ≤ w.heap.size) (hp : p < p') (hp' : p' ≤ n) :
    DA base n p N w.heap.size w a zs lv lm ys 54 5 ItA (.int .i64 p') lv (.slice (some ⟨w.heap.size + 1, 0, none⟩) 0 0) (.int .i64 0) ((w.alloc (.cells #[.nilIface, .int .i32 0] 44)).alloc (.cells #[] 54)) := by
  have hg : w.grownBy ((w.alloc (.cells #[.nilIface, .int .i32 0] 44)).alloc (.cells #[] 54)) lv.ownBlock := gAlloc (gAlloc (gRefl _ _) _) _
  refine ⟨0, p', w.heap.size + 1, 0, [], fun _ => [], fun _ => False, lv, Nat.zero_le _, rfl, rfl, hp', hp, rfl, rfl, by simp [cat], Lib.hid ?_, Lib.hid ⟨rfl, fun q hq => absurd hq (by omega)⟩, Lib.hid (fun k hk => hk.elim), Lib.hid (fun h => h), Lib.hid ?_, Lib.hid (fun k _ hk => hk), Lib.hid hg, Lib.hid (Lies.refl _ _), Lib.hid (hO.keep (gBelow hg hB (fun k hk => (World.ownsRow.lt hL k hk).1))), Lib.hid ((At.new w 44 _).alloc _)⟩
  · refine ⟨rfl, .inr ⟨w.heap.size + 1, 0, #[], rfl, Nat.le_refl _, ?_, Nat.le_refl _, by simp [maxLen], rfl, rfl⟩⟩
    have h := heap_alloc_new (w.alloc (.cells #[.nilIface, .int .i32 0] 44)) (.cells #[] 54)
    simpa using h
  · have h := (hL.alloc (.cells #[.nilIface, .int .i32 0] 44)).alloc (.cells #[] 54)
    simpa [cat, locs] using h

theorem startDAO {base n p p' N : Nat} {w : World} {a : Option Addr} {zs : List Int} {lv : Value} {lm : Nat} {ys : List Value} (hL : w.ownsRow base 21 1 lv lm ys) (hO : Ops base w a n zs) (hB : base ≤ w.heap.size) (hp : p < p') (hp' : p' ≤ n) :
    DA base n p N w.heap.size w a zs lv lm ys 60 11 ItO (.int .i64 p') lv (.slice (some ⟨w.heap.size + 1, 0, none⟩) 0 0) (.int .i64 0) ((w.alloc (.cells #[.nilIface, .int .i32 0] 44)).alloc (.cells #[] 60)) := by
  have hg : w.grownBy ((w.alloc (.cells #[.nilIface, .int .i32 0] 44)).alloc (.cells #[] 60)) lv.ownBlock := gAlloc (gAlloc (gRefl _ _) _) _
  refine ⟨0, p', w.heap.size + 1, 0, [], fun _ => [], fun _ => False, lv, Nat.zero_le _, rfl, rfl, hp', hp, rfl, rfl, by simp [cat], Lib.hid ?_, Lib.hid ⟨rfl, fun q hq => absurd hq (by omega)⟩, Lib.hid (fun k hk => hk.elim), Lib.hid (fun h => h), Lib.hid ?_, Lib.hid (fun k _ hk => hk), Lib.hid hg, Lib.hid (Lies.refl _ _), Lib.hid (hO.keep (gBelow hg hB (fun k hk => (World.ownsRow.lt hL k hk).1))), Lib.hid ((At.new w 44 _).alloc _)⟩
  · refine ⟨rfl, .inr ⟨w.heap.size + 1, 0, #[], rfl, Nat.le_refl _, ?_, Nat.le_refl _, by simp [maxLen], rfl, rfl⟩⟩
    have h := heap_alloc_new (w.alloc (.cells #[.nilIface, .int .i32 0] 44)) (.cells #[] 60)
    simpa using h
  · have h := (hL.alloc (.cells #[.nilIface, .int .i32 0] 44)).alloc (.cells #[] 60)
    simpa [cat, locs] using h

theorem stepA {base n p p2 N r j p' g c g' c' : Nat} {w wr w2 w3 : World} {a : Option Addr} {zs : List Int} {lv lv1 lv2 : Value} {lm : Nat} {ys xs : List Value} {Ls : Nat → List (Nat × Int)} {S S2 : Nat → Prop} {L2 : List (Nat × Int)} {ty bq : Nat} {l : Int}
    (hr : r = w.heap.size) (hB : base ≤ w.heap.size) (hl0 : ∀ k, lv.ownBlock = some k → base ≤ k ∧ k < w.heap.size) (hO : Ops base w a n zs) (hj : j < N) (hp : p < p') (hp3 : p' < p2) (hp4 : p2 ≤ n) (hlen : (cat Ls j).length ≤ p' - p)
    (HW : wr.ownsRow (r + 1) 54 5 (.slice (some ⟨g, 0, none⟩) j c) j xs) (HT : ItA S wr xs j Ls) (HS : ∀ k, S k → r + 1 ≤ k ∧ k < wr.heap.size) (HG : ¬ S g)
    (HD : wr.ownsRow base 21 1 lv1 (lm + (cat Ls j).length) (ys ++ locs (cat Ls j))) (HLv : ∀ k, lv1.ownBlock = some k → ¬ S k) (HGR : w.grownBy wr lv.ownBlock) (HLI : Lies lv lv1 w) (HA : At wr r 44 #[.nilIface, .int .i32 0])
    (hfi : FI S2 w2 (.iface ty (.pointer (some ⟨bq, 0, none⟩))) l L2) (hS2 : ∀ k, S2 k → wr.heap.size + 1 ≤ k) (hL2 : L2.length ≤ p2 - p')
    (hlv2 : w2.ownsRow base 21 1 lv2 (lm + (cat Ls j).length + L2.length) ((ys ++ locs (cat Ls j)) ++ locs L2)) (hg2 : (wr.alloc (.cells #[.nilIface, .int .i32 0] 44)).grownBy w2 lv1.ownBlock) (hli2 : Lies lv1 lv2 (wr.alloc (.cells #[.nilIface, .int .i32 0] 44))) (hd2 : ∀ k, lv2.ownBlock = some k → ¬ S2 k)
    (u0 u1 : Value) (o : Obj) (ho3 : w3.ownsRow (r + 1) 54 5 (.slice (some ⟨g', 0, none⟩) (j + 1) c') (j + 1) (xs ++ [.iface ty (.pointer (some ⟨bq, 0, none⟩)), .int .i32 l, .nilIface, .int .i32 0, .int .i32 0])) (hg3 : (((w2.setCell ⟨wr.heap.size, 0, none⟩ u0).setCell ⟨wr.heap.size, 1, none⟩ u1).alloc o).grownBy w3 (some g)) (hlie : some g = some g' ∨ g' = w2.heap.size + 1) :
    DA base n p N r w a zs lv lm ys 54 5 ItA (.int .i64 p2) lv2 (.slice (some ⟨g', 0, none⟩) (j + 1) c') (.int .i64 ((j + 1 : Nat) : Int)) w3 := by
  subst hr
  have zg := World.ownsRow.lt HW g rfl
  have z1 := HGR.size
  have z2 : wr.heap.size + 1 ≤ w2.heap.size := by have := hg2.size; simpa using this
  have z3 : w2.heap.size + 1 ≤ w3.heap.size := by have := hg3.size; simpa [World.setCell] using this
  have K2 : ∀ k, k < wr.heap.size → lv1.ownBlock ≠ some k → w2.heap[k]? = wr.heap[k]? := fun k hk hn => (hg2.block k (by simp; omega) (Ne.symm hn)).trans (Below.heap_alloc wr _ k hk)
  have K3 : ∀ k, k < w2.heap.size → k ≠ wr.heap.size → k ≠ g → w3.heap[k]? = w2.heap[k]? := fun k hk hn hg => by
    rw [hg3.block k (by simp [World.setCell]; omega) (by simpa using hg), Below.heap_alloc _ _ k (by simpa [World.setCell] using hk), Below.heap_setCell _ _ _ k (by simpa using hn), Below.heap_setCell _ _ _ k (by simpa using hn)]
  have ng : lv1.ownBlock ≠ some g := ownNe HW HD (by decide) rfl
  have nr : lv1.ownBlock ≠ some w.heap.size := atNe HD HA (by decide)
  have lt1 : ∀ k, lv1.ownBlock = some k → k < wr.heap.size := ownLt HD
  have HW2 : w2.ownsRow (w.heap.size + 1) 54 5 (.slice (some ⟨g, 0, none⟩) j c) j xs := ownKeep HW (fun k hk => by simp only [Value.ownBlock, Option.some.injEq] at hk; subst hk; exact K2 _ zg.2 ng)
  have ng2 : lv2.ownBlock ≠ some g := ownNe HW2 hlv2 (by decide) rfl
  have nc2 : lv2.ownBlock ≠ some wr.heap.size := fun e => by
    rcases hli2 with h | ⟨q, h, hq⟩
    · rw [h] at e; have := lt1 _ e; omega
    · rw [h] at e; simp only [Option.some.injEq] at e; simp at hq; omega
  have HGW : w.grownBy w3 lv.ownBlock := gTrans (gAlloc (gSet (gSet (gLies (gAlloc HGR _) HLI hg2) (.inl z1) _ _) (.inl z1) _ _) _) hg3 (.inr (.inr ⟨g, rfl, by omega⟩))
  have S2lt := hfi.1
  refine ⟨j + 1, p2, g', c', xs ++ [.iface ty (.pointer (some ⟨bq, 0, none⟩)), .int .i32 l, .nilIface, .int .i32 0, .int .i32 0], fun q => if q = j then L2 else Ls q, fun k => S k ∨ S2 k, lv2, by omega, rfl, rfl, hp4, by omega, rfl, rfl, by rw [cat_snoc]; simp; omega, Lib.hid ho3, Lib.hid ?_, Lib.hid ?_, Lib.hid ?_, Lib.hid ?_, Lib.hid ?_, Lib.hid HGW, Lib.hid ?_, Lib.hid (hO.keep (gBelow HGW hB (fun k hk => (hl0 k hk).1))), Lib.hid ?_⟩
  · have bnd : ∀ k, (S k ∨ S2 k) → k < w3.heap.size := fun k hk => by
      rcases hk with hk | hk
      · have := (HS k hk).2; omega
      · have := S2lt k hk; omega
    refine ItA.snoc ((HT.keep (by omega) (fun k hk => ?_)).more (fun _ h => .inl h) bnd) _ _ _ _ _ _ ⟨_, _, rfl⟩ (.inl rfl) ((hfi.keep (by omega) (fun k hk => ?_)).more (fun _ h => .inr h) bnd)
    · have h := HS k hk
      exact (K3 k (by omega) (by omega) (fun e => HG (e ▸ hk))).trans (K2 k h.2 (fun e => HLv k e hk))
    · have h := S2lt k hk
      have h' := hS2 k hk
      exact K3 k h (by omega) (by omega)
  · intro k hk
    rcases hk with hk | hk
    · have := HS k hk; omega
    · have := S2lt k hk; have := hS2 k hk; omega
  · intro hk
    rcases hlie with h | h
    · simp only [Option.some.injEq] at h
      subst h
      rcases hk with hk | hk
      · exact HG hk
      · have := hS2 _ hk; omega
    · subst h
      rcases hk with hk | hk
      · have := (HS _ hk).2; omega
      · have := S2lt _ hk; omega
  · have h := ownKeep (w' := w3) hlv2 (fun k hk => K3 k (ownLt hlv2 k hk) (fun e => nc2 (e ▸ hk)) (fun e => ng2 (e ▸ hk)))
    rw [cat_snoc, locs_app, List.length_append]
    simpa [Nat.add_assoc] using h
  · intro k hk hs
    rcases hs with hs | hs
    · exact Lies.not (hli2.low (W0 := wr) (by simp)) (fun q hq => (HS q hq).2) HLv k hk hs
    · exact hd2 k hk hs
  · exact Lies.trans HLI (hli2.low (W0 := wr) (by simp)) z1
  · have h0 := HA.lt
    exact (K3 _ (by omega) (by omega) (by omega)).trans ((K2 _ h0 nr).trans HA)
theorem endA {base n p r j p' g c : Nat} {w wr : World} {lv lv1 : Value} {lm : Nat} {ys xs : List Value} {Ls : Nat → List (Nat × Int)} {S : Nat → Prop} (at_ : Int)
    (hr : r = w.heap.size) (hj : j ≤ 7) (hp : p < p') (hp4 : p' ≤ n) (hlen : (cat Ls j).length ≤ p' - p)
    (HW : wr.ownsRow (r + 1) 54 5 (.slice (some ⟨g, 0, none⟩) j c) j xs) (HT : ItA S wr xs j Ls) (HS : ∀ k, S k → r + 1 ≤ k ∧ k < wr.heap.size) (HG : ¬ S g)
    (HD : wr.ownsRow base 21 1 lv1 (lm + (cat Ls j).length) (ys ++ locs (cat Ls j))) (HLv : ∀ k, lv1.ownBlock = some k → ¬ S k) (HGR : w.grownBy wr lv.ownBlock) (HLI : Lies lv lv1 w) (HA : At wr r 44 #[.nilIface, .int .i32 0]) (u0 u1 : Value) :
    DP base n p lv lm ys w (.returned (.tuple #[.agg #[.iface 48 (.pointer (some ⟨wr.heap.size, 0, none⟩)), .int .i32 at_], .int .i64 p', lv1])) (((wr.setCell ⟨r, 0, none⟩ u0).setCell ⟨r, 1, none⟩ u1).alloc (.cells #[.slice (some ⟨g, 0, none⟩) j c, .int .i32 0, .bool false, .bool false] 57)) := by
  subst hr
  have zg := World.ownsRow.lt HW g rfl
  have z1 := HGR.size
  have h0 := HA.lt
  have ng : lv1.ownBlock ≠ some g := ownNe HW HD (by decide) rfl
  have nr : lv1.ownBlock ≠ some w.heap.size := atNe HD HA (by decide)
  have lt1 : ∀ k, lv1.ownBlock = some k → k < wr.heap.size := ownLt HD
  obtain ⟨W, hW⟩ : ∃ W, W = (((wr.setCell ⟨w.heap.size, 0, none⟩ u0).setCell ⟨w.heap.size, 1, none⟩ u1).alloc (.cells #[.slice (some ⟨g, 0, none⟩) j c, .int .i32 0, .bool false, .bool false] 57)) := ⟨_, rfl⟩
  have K : ∀ k, k < wr.heap.size → k ≠ w.heap.size → W.heap[k]? = wr.heap[k]? := fun k hk hn => by
    rw [hW, Below.heap_alloc _ _ k (by simpa [World.setCell] using hk), Below.heap_setCell _ _ _ k (by simpa using hn), Below.heap_setCell _ _ _ k (by simpa using hn)]
  have hA : At W wr.heap.size 57 #[.slice (some ⟨g, 0, none⟩) j c, .int .i32 0, .bool false, .bool false] := by
    have h := heap_alloc_new ((wr.setCell ⟨w.heap.size, 0, none⟩ u0).setCell ⟨w.heap.size, 1, none⟩ u1) (.cells #[.slice (some ⟨g, 0, none⟩) j c, .int .i32 0, .bool false, .bool false] 57)
    unfold At
    rw [hW]
    simpa [World.setCell] using h
  have zW : W.heap.size = wr.heap.size + 1 := by rw [hW]; simp [World.setCell]
  have HGW : w.grownBy W lv.ownBlock := by rw [hW]; exact gAlloc (gSet (gSet HGR (.inl (Nat.le_refl _)) _ _) (.inl (Nat.le_refl _)) _ _) _
  rw [← hW]
  clear hW
  have bnd : ∀ k, (S k ∨ k = g ∨ k = wr.heap.size) → k < W.heap.size := fun k hk => by
    rcases hk with hk | rfl | rfl
    · have := (HS k hk).2; omega
    · omega
    · omega
  refine ⟨_, at_, p', fun k => S k ∨ k = g ∨ k = wr.heap.size, lv1, cat Ls j, rfl, ⟨_, _, rfl⟩, ?_, ?_, by omega, hp4, fun _ => hp, hlen, ?_, HGW, HLI, ?_⟩
  · refine fiArr (fun k => S k ∨ k = g ∨ k = wr.heap.size) wr.heap.size g j c at_ xs Ls (w.heap.size + 1) #[] W (.inr (.inr rfl)) (.inr (.inl rfl)) (by rw [hA.cell]; rfl) (ownKeep HW (fun k hk => by simp only [Value.ownBlock, Option.some.injEq] at hk; subst hk; exact K _ zg.2 (by omega))) ((HT.keep (by omega) (fun k hk => ?_)).more (fun _ h => .inl h) bnd) bnd (by omega)
    have h := HS k hk
    exact K k h.2 (by omega)
  · intro k hk
    rcases hk with hk | rfl | rfl
    · have := (HS k hk).1; omega
    · omega
    · omega
  · exact ownKeep HD (fun k hk => K k (lt1 k hk) (fun e => nr (e ▸ hk)))
  · intro k hk hs
    rcases hs with hs | rfl | rfl
    · exact HLv k hk hs
    · exact ng hk
    · have := lt1 _ hk; omega

theorem stepO {base n p p2 N r j p' g c g' c' : Nat} {w wr w2 w3 : World} {a : Option Addr} {zs : List Int} {lv lv1 lv2 : Value} {lm : Nat} {ys xs : List Value} {Ls : Nat → List (Nat × Int)} {S S2 : Nat → Prop} {L2 : List (Nat × Int)} {ty bq : Nat} {l : Int}
    (hr : r = w.heap.size) (hB : base ≤ w.heap.size) (hl0 : ∀ k, lv.ownBlock = some k → base ≤ k ∧ k < w.heap.size) (hO : Ops base w a n zs) (hj : j < N) (hp : p < p') (hp3 : p' < p2) (hp4 : p2 ≤ n) (hlen : (cat Ls j).length ≤ p' - p)
    (HW : wr.ownsRow (r + 1) 60 11 (.slice (some ⟨g, 0, none⟩) j c) j xs) (HT : ItO S wr xs j Ls) (HS : ∀ k, S k → r + 1 ≤ k ∧ k < wr.heap.size) (HG : ¬ S g)
    (HD : wr.ownsRow base 21 1 lv1 (lm + (cat Ls j).length) (ys ++ locs (cat Ls j))) (HLv : ∀ k, lv1.ownBlock = some k → ¬ S k) (HGR : w.grownBy wr lv.ownBlock) (HLI : Lies lv lv1 w) (HA : At wr r 44 #[.nilIface, .int .i32 0])
    (hfi : FI S2 w2 (.iface ty (.pointer (some ⟨bq, 0, none⟩))) l L2) (hS2 : ∀ k, S2 k → wr.heap.size + 1 ≤ k) (hL2 : L2.length ≤ p2 - p')
    (hlv2 : w2.ownsRow base 21 1 lv2 (lm + (cat Ls j).length + L2.length) ((ys ++ locs (cat Ls j)) ++ locs L2)) (hg2 : (wr.alloc (.cells #[.nilIface, .int .i32 0] 44)).grownBy w2 lv1.ownBlock) (hli2 : Lies lv1 lv2 (wr.alloc (.cells #[.nilIface, .int .i32 0] 44))) (hd2 : ∀ k, lv2.ownBlock = some k → ¬ S2 k)
    (u0 u1 : Value) (o : Obj) (ho3 : w3.ownsRow (r + 1) 60 11 (.slice (some ⟨g', 0, none⟩) (j + 1) c') (j + 1) (xs ++ [.nilIface, .int .i32 0, .iface ty (.pointer (some ⟨bq, 0, none⟩)), .int .i32 l, .nilIface, .int .i32 0, .int .i32 0, .int .i32 0, .bool false, .bool false, .bool false])) (hg3 : (((w2.setCell ⟨wr.heap.size, 0, none⟩ u0).setCell ⟨wr.heap.size, 1, none⟩ u1).alloc o).grownBy w3 (some g)) (hlie : some g = some g' ∨ g' = w2.heap.size + 1) :
    DA base n p N r w a zs lv lm ys 60 11 ItO (.int .i64 p2) lv2 (.slice (some ⟨g', 0, none⟩) (j + 1) c') (.int .i64 ((j + 1 : Nat) : Int)) w3 := by
  subst hr
  have zg := World.ownsRow.lt HW g rfl
  have z1 := HGR.size
  have z2 : wr.heap.size + 1 ≤ w2.heap.size := by have := hg2.size; simpa using this
  have z3 : w2.heap.size + 1 ≤ w3.heap.size := by have := hg3.size; simpa [World.setCell] using this
  have K2 : ∀ k, k < wr.heap.size → lv1.ownBlock ≠ some k → w2.heap[k]? = wr.heap[k]? := fun k hk hn => (hg2.block k (by simp; omega) (Ne.symm hn)).trans (Below.heap_alloc wr _ k hk)
  have K3 : ∀ k, k < w2.heap.size → k ≠ wr.heap.size → k ≠ g → w3.heap[k]? = w2.heap[k]? := fun k hk hn hg => by
    rw [hg3.block k (by simp [World.setCell]; omega) (by simpa using hg), Below.heap_alloc _ _ k (by simpa [World.setCell] using hk), Below.heap_setCell _ _ _ k (by simpa using hn), Below.heap_setCell _ _ _ k (by simpa using hn)]
  have ng : lv1.ownBlock ≠ some g := ownNe HW HD (by decide) rfl
  have nr : lv1.ownBlock ≠ some w.heap.size := atNe HD HA (by decide)
  have lt1 : ∀ k, lv1.ownBlock = some k → k < wr.heap.size := ownLt HD
  have HW2 : w2.ownsRow (w.heap.size + 1) 60 11 (.slice (some ⟨g, 0, none⟩) j c) j xs := ownKeep HW (fun k hk => by simp only [Value.ownBlock, Option.some.injEq] at hk; subst hk; exact K2 _ zg.2 ng)
  have ng2 : lv2.ownBlock ≠ some g := ownNe HW2 hlv2 (by decide) rfl
  have nc2 : lv2.ownBlock ≠ some wr.heap.size := fun e => by
    rcases hli2 with h | ⟨q, h, hq⟩
    · rw [h] at e; have := lt1 _ e; omega
    · rw [h] at e; simp only [Option.some.injEq] at e; simp at hq; omega
  have HGW : w.grownBy w3 lv.ownBlock := gTrans (gAlloc (gSet (gSet (gLies (gAlloc HGR _) HLI hg2) (.inl z1) _ _) (.inl z1) _ _) _) hg3 (.inr (.inr ⟨g, rfl, by omega⟩))
  have S2lt := hfi.1
  refine ⟨j + 1, p2, g', c', xs ++ [.nilIface, .int .i32 0, .iface ty (.pointer (some ⟨bq, 0, none⟩)), .int .i32 l, .nilIface, .int .i32 0, .int .i32 0, .int .i32 0, .bool false, .bool false, .bool false], fun q => if q = j then L2 else Ls q, fun k => S k ∨ S2 k, lv2, by omega, rfl, rfl, hp4, by omega, rfl, rfl, by rw [cat_snoc]; simp; omega, Lib.hid ho3, Lib.hid ?_, Lib.hid ?_, Lib.hid ?_, Lib.hid ?_, Lib.hid ?_, Lib.hid HGW, Lib.hid ?_, Lib.hid (hO.keep (gBelow HGW hB (fun k hk => (hl0 k hk).1))), Lib.hid ?_⟩
  · have bnd : ∀ k, (S k ∨ S2 k) → k < w3.heap.size := fun k hk => by
      rcases hk with hk | hk
      · have := (HS k hk).2; omega
      · have := S2lt k hk; omega
    refine ItO.snoc ((HT.keep (by omega) (fun k hk => ?_)).more (fun _ h => .inl h) bnd) _ _ _ ⟨_, _, rfl⟩ ((hfi.keep (by omega) (fun k hk => ?_)).more (fun _ h => .inr h) bnd)
    · have h := HS k hk
      exact (K3 k (by omega) (by omega) (fun e => HG (e ▸ hk))).trans (K2 k h.2 (fun e => HLv k e hk))
    · have h := S2lt k hk
      have h' := hS2 k hk
      exact K3 k h (by omega) (by omega)
  · intro k hk
    rcases hk with hk | hk
    · have := HS k hk; omega
    · have := S2lt k hk; have := hS2 k hk; omega
  · intro hk
    rcases hlie with h | h
    · simp only [Option.some.injEq] at h
      subst h
      rcases hk with hk | hk
      · exact HG hk
      · have := hS2 _ hk; omega
    · subst h
      rcases hk with hk | hk
      · have := (HS _ hk).2; omega
      · have := S2lt _ hk; omega
  · have h := ownKeep (w' := w3) hlv2 (fun k hk => K3 k (ownLt hlv2 k hk) (fun e => nc2 (e ▸ hk)) (fun e => ng2 (e ▸ hk)))
    rw [cat_snoc, locs_app, List.length_append]
    simpa [Nat.add_assoc] using h
  · intro k hk hs
    rcases hs with hs | hs
    · exact Lies.not (hli2.low (W0 := wr) (by simp)) (fun q hq => (HS q hq).2) HLv k hk hs
    · exact hd2 k hk hs
  · exact Lies.trans HLI (hli2.low (W0 := wr) (by simp)) z1
  · have h0 := HA.lt
    exact (K3 _ (by omega) (by omega) (by omega)).trans ((K2 _ h0 nr).trans HA)
theorem endO {base n p r j p' g c : Nat} {w wr : World} {lv lv1 : Value} {lm : Nat} {ys xs : List Value} {Ls : Nat → List (Nat × Int)} {S : Nat → Prop} (at_ : Int)
    (hr : r = w.heap.size) (hj : j ≤ 7) (hp : p < p') (hp4 : p' ≤ n) (hlen : (cat Ls j).length ≤ p' - p)
    (HW : wr.ownsRow (r + 1) 60 11 (.slice (some ⟨g, 0, none⟩) j c) j xs) (HT : ItO S wr xs j Ls) (HS : ∀ k, S k → r + 1 ≤ k ∧ k < wr.heap.size) (HG : ¬ S g)
    (HD : wr.ownsRow base 21 1 lv1 (lm + (cat Ls j).length) (ys ++ locs (cat Ls j))) (HLv : ∀ k, lv1.ownBlock = some k → ¬ S k) (HGR : w.grownBy wr lv.ownBlock) (HLI : Lies lv lv1 w) (HA : At wr r 44 #[.nilIface, .int .i32 0]) (u0 u1 : Value) :
    DP base n p lv lm ys w (.returned (.tuple #[.agg #[.iface 58 (.pointer (some ⟨wr.heap.size, 0, none⟩)), .int .i32 at_], .int .i64 p', lv1])) (((wr.setCell ⟨r, 0, none⟩ u0).setCell ⟨r, 1, none⟩ u1).alloc (.cells #[.slice (some ⟨g, 0, none⟩) j c, .int .i32 0, .bool false] 63)) := by
  subst hr
  have zg := World.ownsRow.lt HW g rfl
  have z1 := HGR.size
  have h0 := HA.lt
  have ng : lv1.ownBlock ≠ some g := ownNe HW HD (by decide) rfl
  have nr : lv1.ownBlock ≠ some w.heap.size := atNe HD HA (by decide)
  have lt1 : ∀ k, lv1.ownBlock = some k → k < wr.heap.size := ownLt HD
  obtain ⟨W, hW⟩ : ∃ W, W = (((wr.setCell ⟨w.heap.size, 0, none⟩ u0).setCell ⟨w.heap.size, 1, none⟩ u1).alloc (.cells #[.slice (some ⟨g, 0, none⟩) j c, .int .i32 0, .bool false] 63)) := ⟨_, rfl⟩
  have K : ∀ k, k < wr.heap.size → k ≠ w.heap.size → W.heap[k]? = wr.heap[k]? := fun k hk hn => by
    rw [hW, Below.heap_alloc _ _ k (by simpa [World.setCell] using hk), Below.heap_setCell _ _ _ k (by simpa using hn), Below.heap_setCell _ _ _ k (by simpa using hn)]
  have hA : At W wr.heap.size 63 #[.slice (some ⟨g, 0, none⟩) j c, .int .i32 0, .bool false] := by
    have h := heap_alloc_new ((wr.setCell ⟨w.heap.size, 0, none⟩ u0).setCell ⟨w.heap.size, 1, none⟩ u1) (.cells #[.slice (some ⟨g, 0, none⟩) j c, .int .i32 0, .bool false] 63)
    unfold At
    rw [hW]
    simpa [World.setCell] using h
  have zW : W.heap.size = wr.heap.size + 1 := by rw [hW]; simp [World.setCell]
  have HGW : w.grownBy W lv.ownBlock := by rw [hW]; exact gAlloc (gSet (gSet HGR (.inl (Nat.le_refl _)) _ _) (.inl (Nat.le_refl _)) _ _) _
  rw [← hW]
  clear hW
  have bnd : ∀ k, (S k ∨ k = g ∨ k = wr.heap.size) → k < W.heap.size := fun k hk => by
    rcases hk with hk | rfl | rfl
    · have := (HS k hk).2; omega
    · omega
    · omega
  refine ⟨_, at_, p', fun k => S k ∨ k = g ∨ k = wr.heap.size, lv1, cat Ls j, rfl, ⟨_, _, rfl⟩, ?_, ?_, by omega, hp4, fun _ => hp, hlen, ?_, HGW, HLI, ?_⟩
  · refine fiObj (fun k => S k ∨ k = g ∨ k = wr.heap.size) wr.heap.size g j c at_ xs Ls (w.heap.size + 1) #[] W (.inr (.inr rfl)) (.inr (.inl rfl)) (by rw [hA.cell]; rfl) (ownKeep HW (fun k hk => by simp only [Value.ownBlock, Option.some.injEq] at hk; subst hk; exact K _ zg.2 (by omega))) ((HT.keep (by omega) (fun k hk => ?_)).more (fun _ h => .inl h) bnd) bnd (by omega)
    have h := HS k hk
    exact K k h.2 (by omega)
  · intro k hk
    rcases hk with hk | rfl | rfl
    · have := (HS k hk).1; omega
    · omega
    · omega
  · exact ownKeep HD (fun k hk => K k (lt1 k hk) (fun e => nr (e ▸ hk)))
  · intro k hk hs
    rcases hs with hs | rfl | rfl
    · exact HLv k hk hs
    · exact ng hk
    · have := lt1 _ hk; omega

def NXT (n p : Nat) (zs : List Int) (f : Int) (p' : Nat) : Prop := 0 ≤ f ∧ f ≤ 255 ∧ p ≤ p' ∧ p' ≤ n
theorem nextAny (base : Nat) (a : Option Addr) (n cap p : Nat) (zs : List Int) (W : World) (hp : p ≤ n) (hn : n ≤ 1048576) (hz : ∀ i, 0 ≤ zs.getD i 0 ∧ zs.getD i 0 ≤ 255) (hO : Ops base W a n zs) :
    Calls Try.prog 42 #[.slice a n cap, .int .i64 p] W fun e w' => ∃ (f : Int) (p' : Nat), e = .returned (.tuple #[.int .u8 f, .int .i64 p']) ∧ NXT n p zs f p' ∧ W = w' := by
  by_cases h : p < n
  · obtain ⟨B, off, rfl, _, hc⟩ := hO (by omega)
    exact (nextIn B off n cap p _ W h hn (hc p h)).mono fun _ _ ⟨h1, h2⟩ => ⟨_, p + 1, h1, ⟨(hz p).1, (hz p).2, by omega, by omega⟩, h2⟩
  · exact (nextOut a n cap p W (by omega)).mono fun _ _ ⟨h1, h2⟩ => ⟨0, p, h1, ⟨by omega, by omega, by omega, hp⟩, h2⟩
set_option maxRecDepth 100000 in
set_option maxHeartbeats 8000000 in
theorem dec (base n cap : Nat) (a : Option Addr) (zs : List Int) (b0 : Int) (hb0 : 0 ≤ b0) (hb1 : b0 ≤ 10000) (hn : n ≤ 4096) (hz : ∀ i, 0 ≤ zs.getD i 0 ∧ zs.getD i 0 ≤ 255) : ∀ (m p : Nat) (w : World) (lv : Value) (lm : Nat) (ys : List Value), n - p ≤ m → p ≤ n → Ops base w a n zs → w.ownsRow base 21 1 lv lm ys → base ≤ w.heap.size → lm + (n - p) ≤ 8192 → Calls Try.prog 16 #[.slice a n cap, .int .i64 p, .int .i32 b0, lv] w (DP base n p lv lm ys w) := by
  intro m
  induction m with
  | zero =>
    intro p w lv lm ys hm hp hO hL hB hS
    obtain rfl : p = n := by omega
    have END := Lib.hid (fun o1 o2 b => missEnd (n := p) (p := p) (p' := p) (at_ := -1) hL (Nat.le_refl _) (Nat.le_refl _) (fun h => h) o1 o2 b)
    clear hO hL
    go_enter Try.func16, Try.ntmps16
    go_wp2_with fail
    exact bodyPost_ret (v := .tuple #[.agg #[.iface 163 (.pointer (some ⟨w.heap.size + 1, 0, none⟩)), .int .i32 (-1)], .int .i64 p, lv]) (by simp [results, Try.results16, go_sem, *]) rfl (END.out _ _ _)
  | succ m ih =>
    intro p w lv lm ys hm hp hO hL hB hS
    by_cases hpn : p < n
    · obtain ⟨B, off, rfl, hBg, hc⟩ := hO (by omega)
      have c0 := hc p hpn
      obtain ⟨z0, z1⟩ := hz p
      obtain ⟨z, hzz⟩ : ∃ z, z = zs.getD p 0 := ⟨_, rfl⟩
      rw [← hzz] at c0 z0 z1
      clear hzz
      have HC := Lib.hid hc
      have HO := Lib.hid hO
      have HL := Lib.hid hL
      have HL0 := Lib.hid (show ∀ k, lv.ownBlock = some k → base ≤ k ∧ k < w.heap.size from World.ownsRow.lt hL)
      have HZ := Lib.hid hz
      have lB : B < w.heap.size := World.block_lt_of_cell? _ _ c0
      have p0 : (0 : Int) ≤ (p : Int) := Int.natCast_nonneg _
      have p1 : (p : Int) < (n : Int) := by omega
      clear hO hL hc hz
      obtain ⟨iA, hi1, hy0, hy1, hy2⟩ := info_parts infoAB
      obtain ⟨iO, hi2, hv0, hv1, hv2⟩ := info_parts infoPB
      obtain ⟨iI, hi3, ht0, ht1, ht2⟩ := info_parts infoI
      have IA := Lib.hid hi1
      have IA0 := Lib.hid hy0
      have IA1 := Lib.hid hy1
      have IA2 := Lib.hid hy2
      have IO := Lib.hid hi2
      have IO0 := Lib.hid hv0
      have IO1 := Lib.hid hv1
      have IO2 := Lib.hid hv2
      have II := Lib.hid hi3
      have II0 := Lib.hid ht0
      have II1 := Lib.hid ht1
      have II2 := Lib.hid ht2
      clear hi1 hy0 hy1 hy2 hi2 hv0 hv1 hv2 hi3 ht0 ht1 ht2
      rcases (show z % 4 = 0 ∨ z % 4 = 1 ∨ z % 4 = 2 ∨ z % 4 = 3 by omega) with hk | hk | hk | hk
      · have F1 := Lib.hid (show ∀ q u, ([.int .i32 (b0 + (p : Int))] : List Value)[q]? = some u → ((w.alloc (.cells #[.nilIface, .int .i32 0] 44)).alloc (.cells #[.int .i32 (b0 + (p : Int))] 21)).cell? ((⟨w.heap.size + 1, 0, none⟩ : Addr).add q) = some u from by
          have hh := heap_alloc_new (w.alloc (.cells #[.nilIface, .int .i32 0] 44)) (.cells #[.int .i32 (b0 + (p : Int))] 21)
          rw [show (w.alloc (.cells #[.nilIface, .int .i32 0] 44)).heap.size = w.heap.size + 1 from by simp] at hh
          exact World.news_of_block (cs := #[.int .i32 (b0 + (p : Int))]) (t := 21) (fr := (0, 0)) hh)
        have F2 : lm + 1 ≤ maxLen := by unfold maxLen; omega
        have F3 : (lm + 1) * 4 ≤ 140737488355328 := by omega
        have F4 := Lib.hid (show base ≤ ((w.alloc (.cells #[.nilIface, .int .i32 0] 44)).alloc (.cells #[.int .i32 (b0 + (p : Int))] 21)).heap.size by simp; omega)
        have F5 := Lib.hid (show ((w.alloc (.cells #[.nilIface, .int .i32 0] 44)).alloc (.cells #[.int .i32 (b0 + (p : Int))] 21)).heap.size = w.heap.size + 1 + 1 by simp)
        have F6 := Lib.hid (show ∀ u ∈ ([.int .i32 (b0 + (p : Int))] : List Value), u.oneCell' = true from by simp [Value.oneCell'])
        go_enter Try.func16, Try.ntmps16
        go_wp2_with (with_reducible refine wpList_append_lies _ (o := ⟨some 57, _, _, _, _, _⟩) rfl _ _ 45 rfl base 21 iI _ 1 4 Try.underlying45 II.out II0.out II1.out II2.out rfl (by omega) lv lm ys rfl ((HL.out.alloc _).alloc _) ⟨w.heap.size + 1, 0, none⟩ 1 1 [.int .i32 (b0 + (p : Int))] rfl rfl F1.out F6.out (by omega) F2 F3 F4.out (w.heap.size + 1 + 1) F5.out ?_)
        intro g c w1 ho hgr hlie hlt
        have END := Lib.hid (fun o3 u0 u1 => leafEnd (n := n) (p := p) HL.out hpn _ _ o3 u0 u1 ho hgr hlie)
        have hA2 : At w1 w.heap.size 44 #[.nilIface, .int .i32 0] := (hgr.block _ (by simp; omega) (fun e => by have := HL0.out _ e.symm; omega)).trans ((At.new w 44 _).alloc _)
        have r0 : w1.cell? ⟨w.heap.size, 0, none⟩ = some .nilIface := by rw [hA2.cell]; rfl
        have r1 : w1.cell? ⟨w.heap.size, 1, none⟩ = some (.int .i32 0) := by rw [hA2.cell]; rfl
        have q0 := hA2.frozen 0
        have q1 := hA2.frozen 1
        have lr := hA2.lt
        clear ho hgr hlie hA2
        go_wp2_with fail
        exact bodyPost_ret (v := .tuple #[.agg #[.iface 165 (.pointer (some ⟨w1.heap.size, 0, none⟩)), .int .i32 (b0 + (p : Int))], .int .i64 ((p + 1 : Nat) : Int), .slice (some ⟨g, 0, none⟩) (lm + 1) c]) (by simp [results, Try.results16, go_sem, *]) rfl (END.out _ _ _)
      · go_enter Try.func16, Try.ntmps16
        go_wp2_with fail
        refine (nextAny base _ n cap (p + 1) zs _ (by omega) (by omega) HZ.out (HO.out.keep ((Below.refl base w).alloc hB _))).mono ?_
        rintro e w' ⟨f, pp, rfl, ⟨hf0, hf1, hpp, hpn1⟩, rfl⟩
        go_wp2_with fail
        obtain ⟨N, hN⟩ : ∃ N : Nat, f % 8 = (N : Int) := ⟨(f % 8).toNat, by omega⟩
        have hN7 : N ≤ 7 := by omega
        go_loopw [1, 3, 14, 15] (fun p1 l1 s i wr => DA base n p N w.heap.size w (some ⟨B, off, none⟩) zs lv lm ys 54 5 ItA p1 l1 s i wr) (fun _ _ _ i _ => N - (intOf i).toNat)
        case atStart => exact startDAA HL.out HO.out hB (by omega) hpn1
        case round =>
          obtain ⟨j, p', g, c, xs, Ls, S, lv1, hj, rfl, rfl, hp1, hp2, rfl, rfl, hlen, HW, HT, HS, HG, HD, HLv, HGR, HLI, HO1, HA⟩ := hrel
          by_cases hjn : j < N
          · by_cases hpn2 : p' < n
            · have HR := Lib.hid (show w.heap.size ≤ wr.heap.size from HGR.out.size)
              go_wp2_with fail
              refine (ih p' _ lv1 _ _ (by omega) hp1 (HO1.out.keep ((Below.refl base wr).alloc (by have := HR.out; omega) _)) (HD.out.alloc _) (by have := HR.out; simp; omega) (by omega)).mono ?_
              rintro e w2 ⟨d, l, p2, S2, lv2, L2, rfl, ⟨ty, bq, rfl⟩, hfi, hS2, hp3, hp4, hp5, hL2, hlv2, hg2, hli2, hd2⟩
              have hA2 : At w2 wr.heap.size 44 #[.nilIface, .int .i32 0] := (hg2.block _ (by simp) (fun e => by have := ownLt HD.out _ e.symm; omega)).trans (At.new wr 44 _)
              have r0 : w2.cell? ⟨wr.heap.size, 0, none⟩ = some .nilIface := by rw [hA2.cell]; rfl
              have r1 : w2.cell? ⟨wr.heap.size, 1, none⟩ = some (.int .i32 0) := by rw [hA2.cell]; rfl
              have q0 := hA2.frozen 0
              have q1 := hA2.frozen 1
              have lr := hA2.lt
              have OWN := Lib.hid (show ∀ (u0 u1 : Value) (o : Obj), (((w2.setCell ⟨wr.heap.size, 0, none⟩ u0).setCell ⟨wr.heap.size, 1, none⟩ u1).alloc o).ownsRow (w.heap.size + 1) 54 5 (.slice (some ⟨g, 0, none⟩) j c) j xs from fun u0 u1 o => by
                have zg := (World.ownsRow.lt HW.out g rfl).2
                refine World.ownsRow.alloc (ownKeep HW.out (fun k hk => ?_)) _
                simp only [Value.ownBlock, Option.some.injEq] at hk
                subst hk
                rw [Below.heap_setCell _ _ _ g (by simp; omega), Below.heap_setCell _ _ _ g (by simp; omega)]
                exact (hg2.block g (by simp; omega) (fun e => ownNe HW.out HD.out (by decide) rfl e.symm)).trans (Below.heap_alloc wr _ g zg))
              have NEW := Lib.hid (show ∀ (u0 u1 : Value), ∀ (q : Nat) (u : Value), ([.iface ty (.pointer (some ⟨bq, 0, none⟩)), .int .i32 l, .nilIface, .int .i32 0, .int .i32 0] : List Value)[q]? = some u → (((w2.setCell ⟨wr.heap.size, 0, none⟩ u0).setCell ⟨wr.heap.size, 1, none⟩ u1).alloc (.cells #[.iface ty (.pointer (some ⟨bq, 0, none⟩)), .int .i32 l, .nilIface, .int .i32 0, .int .i32 0] 54)).cell? ((⟨w2.heap.size, 0, none⟩ : Addr).add q) = some u from fun u0 u1 => by
                have hh := heap_alloc_new ((w2.setCell ⟨wr.heap.size, 0, none⟩ u0).setCell ⟨wr.heap.size, 1, none⟩ u1) (.cells #[.iface ty (.pointer (some ⟨bq, 0, none⟩)), .int .i32 l, .nilIface, .int .i32 0, .int .i32 0] 54)
                rw [show ((w2.setCell ⟨wr.heap.size, 0, none⟩ u0).setCell ⟨wr.heap.size, 1, none⟩ u1).heap.size = w2.heap.size from by simp [World.setCell]] at hh
                exact World.news_of_block (cs := #[.iface ty (.pointer (some ⟨bq, 0, none⟩)), .int .i32 l, .nilIface, .int .i32 0, .int .i32 0]) (t := 54) (fr := (0, 0)) hh)
              have ONE := Lib.hid (show ∀ u ∈ ([.iface ty (.pointer (some ⟨bq, 0, none⟩)), .int .i32 l, .nilIface, .int .i32 0, .int .i32 0] : List Value), u.oneCell' = true from by simp [Value.oneCell'])
              have STEP := Lib.hid (fun u0 u1 o w3 g' c' ho3 hg3 hlie => stepA (N := N) (r := w.heap.size) (u0 := u0) (u1 := u1) (o := o) (w3 := w3) (g' := g') (c' := c') rfl hB HL0.out HO.out hjn hp2 (hp5 hpn2) hp4 hlen HW.out HT.out HS.out HG.out HD.out HLv.out HGR.out HLI.out HA.out hfi (by simpa using hS2) hL2 hlv2 hg2 hli2 hd2 ho3 hg3 hlie)
              have B1 : j + 1 ≤ maxLen := by unfold maxLen; omega
              have B2 : (j + 1) * 56 ≤ 140737488355328 := by omega
              have B3 := Lib.hid (show ∀ u0 u1 o, w.heap.size + 1 ≤ (((w2.setCell ⟨wr.heap.size, 0, none⟩ u0).setCell ⟨wr.heap.size, 1, none⟩ u1).alloc o).heap.size from fun _ _ _ => by have := HR.out; simp [World.setCell]; omega)
              have B4 := Lib.hid (show ∀ u0 u1 o, (((w2.setCell ⟨wr.heap.size, 0, none⟩ u0).setCell ⟨wr.heap.size, 1, none⟩ u1).alloc o).heap.size = w2.heap.size + 1 from fun _ _ _ => by simp [World.setCell])
              clear hfi hS2 hL2 hlv2 hg2 hli2 hd2 hA2 HW HT HS HG HD HLv HGR HLI HO1 HA
              go_wp2_with (with_reducible refine wpList_append_lies _ (o := ⟨some 104, _, _, _, _, _⟩) rfl _ _ 55 rfl (w.heap.size + 1) 54 iA _ 5 56 Try.underlying55 IA.out IA0.out IA1.out IA2.out rfl (by omega) (.slice (some ⟨g, 0, none⟩) j c) j xs rfl (OWN.out _ _ _) ⟨w2.heap.size, 0, none⟩ 1 1 [.iface ty (.pointer (some ⟨bq, 0, none⟩)), .int .i32 l, .nilIface, .int .i32 0, .int .i32 0] rfl rfl (NEW.out _ _) ONE.out (by omega) B1 B2 (B3.out _ _ _) (w2.heap.size + 1) (B4.out _ _ _) ?_)
              intro g' c' w3 ho3 hg3 hlie hlt3
              have DA1 := Lib.hid (STEP.out _ _ _ _ _ _ ho3 hg3 hlie)
              clear ho3 hg3 hlie STEP OWN NEW
              go_wp2_with fail
              go_roundw
              case measure => simp [intOf]; omega
              case rel => exact DA1.out
            · have r0 : wr.cell? ⟨w.heap.size, 0, none⟩ = some .nilIface := by rw [HA.out.cell]; rfl
              have r1 : wr.cell? ⟨w.heap.size, 1, none⟩ = some (.int .i32 0) := by rw [HA.out.cell]; rfl
              have q0 := HA.out.frozen 0
              have q1 := HA.out.frozen 1
              have lr := HA.out.lt
              have END := Lib.hid (fun u0 u1 => endA (r := w.heap.size) (w := w) (u0 := u0) (u1 := u1) (b0 + (p : Int)) rfl (by omega) hp2 hp1 hlen HW.out HT.out HS.out HG.out HD.out HLv.out HGR.out HLI.out HA.out)
              clear HW HT HS HG HD HLv HGR HLI HO1 HA
              go_wp2_with fail
              exact bodyPost_ret (v := .tuple #[.agg #[.iface 48 (.pointer (some ⟨wr.heap.size, 0, none⟩)), .int .i32 (b0 + (p : Int))], .int .i64 p', lv1]) (by simp [results, Try.results16, go_sem, *]) rfl (END.out _ _)
          · have r0 : wr.cell? ⟨w.heap.size, 0, none⟩ = some .nilIface := by rw [HA.out.cell]; rfl
            have r1 : wr.cell? ⟨w.heap.size, 1, none⟩ = some (.int .i32 0) := by rw [HA.out.cell]; rfl
            have q0 := HA.out.frozen 0
            have q1 := HA.out.frozen 1
            have lr := HA.out.lt
            have END := Lib.hid (fun u0 u1 => endA (r := w.heap.size) (w := w) (u0 := u0) (u1 := u1) (b0 + (p : Int)) rfl (by omega) hp2 hp1 hlen HW.out HT.out HS.out HG.out HD.out HLv.out HGR.out HLI.out HA.out)
            clear HW HT HS HG HD HLv HGR HLI HO1 HA
            go_wp2_with fail
            exact bodyPost_ret (v := .tuple #[.agg #[.iface 48 (.pointer (some ⟨wr.heap.size, 0, none⟩)), .int .i32 (b0 + (p : Int))], .int .i64 p', lv1]) (by simp [results, Try.results16, go_sem, *]) rfl (END.out _ _)
      · go_enter Try.func16, Try.ntmps16
        go_wp2_with fail
        refine (nextAny base _ n cap (p + 1) zs _ (by omega) (by omega) HZ.out (HO.out.keep ((Below.refl base w).alloc hB _))).mono ?_
        rintro e w' ⟨f, pp, rfl, ⟨hf0, hf1, hpp, hpn1⟩, rfl⟩
        go_wp2_with fail
        obtain ⟨N, hN⟩ : ∃ N : Nat, f % 8 = (N : Int) := ⟨(f % 8).toNat, by omega⟩
        have hN7 : N ≤ 7 := by omega
        go_loopw [1, 3, 18, 19] (fun p1 l1 s i wr => DA base n p N w.heap.size w (some ⟨B, off, none⟩) zs lv lm ys 60 11 ItO p1 l1 s i wr) (fun _ _ _ i _ => N - (intOf i).toNat)
        case atStart => exact startDAO HL.out HO.out hB (by omega) hpn1
        case round =>
          obtain ⟨j, p', g, c, xs, Ls, S, lv1, hj, rfl, rfl, hp1, hp2, rfl, rfl, hlen, HW, HT, HS, HG, HD, HLv, HGR, HLI, HO1, HA⟩ := hrel
          by_cases hjn : j < N
          · by_cases hpn2 : p' < n
            · have HR := Lib.hid (show w.heap.size ≤ wr.heap.size from HGR.out.size)
              go_wp2_with fail
              refine (ih p' _ lv1 _ _ (by omega) hp1 (HO1.out.keep ((Below.refl base wr).alloc (by have := HR.out; omega) _)) (HD.out.alloc _) (by have := HR.out; simp; omega) (by omega)).mono ?_
              rintro e w2 ⟨d, l, p2, S2, lv2, L2, rfl, ⟨ty, bq, rfl⟩, hfi, hS2, hp3, hp4, hp5, hL2, hlv2, hg2, hli2, hd2⟩
              have hA2 : At w2 wr.heap.size 44 #[.nilIface, .int .i32 0] := (hg2.block _ (by simp) (fun e => by have := ownLt HD.out _ e.symm; omega)).trans (At.new wr 44 _)
              have r0 : w2.cell? ⟨wr.heap.size, 0, none⟩ = some .nilIface := by rw [hA2.cell]; rfl
              have r1 : w2.cell? ⟨wr.heap.size, 1, none⟩ = some (.int .i32 0) := by rw [hA2.cell]; rfl
              have q0 := hA2.frozen 0
              have q1 := hA2.frozen 1
              have lr := hA2.lt
              have OWN := Lib.hid (show ∀ (u0 u1 : Value) (o : Obj), (((w2.setCell ⟨wr.heap.size, 0, none⟩ u0).setCell ⟨wr.heap.size, 1, none⟩ u1).alloc o).ownsRow (w.heap.size + 1) 60 11 (.slice (some ⟨g, 0, none⟩) j c) j xs from fun u0 u1 o => by
                have zg := (World.ownsRow.lt HW.out g rfl).2
                refine World.ownsRow.alloc (ownKeep HW.out (fun k hk => ?_)) _
                simp only [Value.ownBlock, Option.some.injEq] at hk
                subst hk
                rw [Below.heap_setCell _ _ _ g (by simp; omega), Below.heap_setCell _ _ _ g (by simp; omega)]
                exact (hg2.block g (by simp; omega) (fun e => ownNe HW.out HD.out (by decide) rfl e.symm)).trans (Below.heap_alloc wr _ g zg))
              have NEW := Lib.hid (show ∀ (u0 u1 : Value), ∀ (q : Nat) (u : Value), ([.nilIface, .int .i32 0, .iface ty (.pointer (some ⟨bq, 0, none⟩)), .int .i32 l, .nilIface, .int .i32 0, .int .i32 0, .int .i32 0, .bool false, .bool false, .bool false] : List Value)[q]? = some u → (((w2.setCell ⟨wr.heap.size, 0, none⟩ u0).setCell ⟨wr.heap.size, 1, none⟩ u1).alloc (.cells #[.nilIface, .int .i32 0, .iface ty (.pointer (some ⟨bq, 0, none⟩)), .int .i32 l, .nilIface, .int .i32 0, .int .i32 0, .int .i32 0, .bool false, .bool false, .bool false] 60)).cell? ((⟨w2.heap.size, 0, none⟩ : Addr).add q) = some u from fun u0 u1 => by
                have hh := heap_alloc_new ((w2.setCell ⟨wr.heap.size, 0, none⟩ u0).setCell ⟨wr.heap.size, 1, none⟩ u1) (.cells #[.nilIface, .int .i32 0, .iface ty (.pointer (some ⟨bq, 0, none⟩)), .int .i32 l, .nilIface, .int .i32 0, .int .i32 0, .int .i32 0, .bool false, .bool false, .bool false] 60)
                rw [show ((w2.setCell ⟨wr.heap.size, 0, none⟩ u0).setCell ⟨wr.heap.size, 1, none⟩ u1).heap.size = w2.heap.size from by simp [World.setCell]] at hh
                exact World.news_of_block (cs := #[.nilIface, .int .i32 0, .iface ty (.pointer (some ⟨bq, 0, none⟩)), .int .i32 l, .nilIface, .int .i32 0, .int .i32 0, .int .i32 0, .bool false, .bool false, .bool false]) (t := 60) (fr := (0, 0)) hh)
              have ONE := Lib.hid (show ∀ u ∈ ([.nilIface, .int .i32 0, .iface ty (.pointer (some ⟨bq, 0, none⟩)), .int .i32 l, .nilIface, .int .i32 0, .int .i32 0, .int .i32 0, .bool false, .bool false, .bool false] : List Value), u.oneCell' = true from by simp [Value.oneCell'])
              have STEP := Lib.hid (fun u0 u1 o w3 g' c' ho3 hg3 hlie => stepO (N := N) (r := w.heap.size) (u0 := u0) (u1 := u1) (o := o) (w3 := w3) (g' := g') (c' := c') rfl hB HL0.out HO.out hjn hp2 (hp5 hpn2) hp4 hlen HW.out HT.out HS.out HG.out HD.out HLv.out HGR.out HLI.out HA.out hfi (by simpa using hS2) hL2 hlv2 hg2 hli2 hd2 ho3 hg3 hlie)
              have B1 : j + 1 ≤ maxLen := by unfold maxLen; omega
              have B2 : (j + 1) * 88 ≤ 140737488355328 := by omega
              have B3 := Lib.hid (show ∀ u0 u1 o, w.heap.size + 1 ≤ (((w2.setCell ⟨wr.heap.size, 0, none⟩ u0).setCell ⟨wr.heap.size, 1, none⟩ u1).alloc o).heap.size from fun _ _ _ => by have := HR.out; simp [World.setCell]; omega)
              have B4 := Lib.hid (show ∀ u0 u1 o, (((w2.setCell ⟨wr.heap.size, 0, none⟩ u0).setCell ⟨wr.heap.size, 1, none⟩ u1).alloc o).heap.size = w2.heap.size + 1 from fun _ _ _ => by simp [World.setCell])
              clear hfi hS2 hL2 hlv2 hg2 hli2 hd2 hA2 HW HT HS HG HD HLv HGR HLI HO1 HA
              go_wp2_with (with_reducible refine wpList_append_lies _ (o := ⟨some 149, _, _, _, _, _⟩) rfl _ _ 61 rfl (w.heap.size + 1) 60 iO _ 11 88 Try.underlying61 IO.out IO0.out IO1.out IO2.out rfl (by omega) (.slice (some ⟨g, 0, none⟩) j c) j xs rfl (OWN.out _ _ _) ⟨w2.heap.size, 0, none⟩ 1 1 [.nilIface, .int .i32 0, .iface ty (.pointer (some ⟨bq, 0, none⟩)), .int .i32 l, .nilIface, .int .i32 0, .int .i32 0, .int .i32 0, .bool false, .bool false, .bool false] rfl rfl (NEW.out _ _) ONE.out (by omega) B1 B2 (B3.out _ _ _) (w2.heap.size + 1) (B4.out _ _ _) ?_)
              intro g' c' w3 ho3 hg3 hlie hlt3
              have DA1 := Lib.hid (STEP.out _ _ _ _ _ _ ho3 hg3 hlie)
              clear ho3 hg3 hlie STEP OWN NEW
              go_wp2_with fail
              go_roundw
              case measure => simp [intOf]; omega
              case rel => exact DA1.out
            · have r0 : wr.cell? ⟨w.heap.size, 0, none⟩ = some .nilIface := by rw [HA.out.cell]; rfl
              have r1 : wr.cell? ⟨w.heap.size, 1, none⟩ = some (.int .i32 0) := by rw [HA.out.cell]; rfl
              have q0 := HA.out.frozen 0
              have q1 := HA.out.frozen 1
              have lr := HA.out.lt
              have END := Lib.hid (fun u0 u1 => endO (r := w.heap.size) (w := w) (u0 := u0) (u1 := u1) (b0 + (p : Int)) rfl (by omega) hp2 hp1 hlen HW.out HT.out HS.out HG.out HD.out HLv.out HGR.out HLI.out HA.out)
              clear HW HT HS HG HD HLv HGR HLI HO1 HA
              go_wp2_with fail
              exact bodyPost_ret (v := .tuple #[.agg #[.iface 58 (.pointer (some ⟨wr.heap.size, 0, none⟩)), .int .i32 (b0 + (p : Int))], .int .i64 p', lv1]) (by simp [results, Try.results16, go_sem, *]) rfl (END.out _ _)
          · have r0 : wr.cell? ⟨w.heap.size, 0, none⟩ = some .nilIface := by rw [HA.out.cell]; rfl
            have r1 : wr.cell? ⟨w.heap.size, 1, none⟩ = some (.int .i32 0) := by rw [HA.out.cell]; rfl
            have q0 := HA.out.frozen 0
            have q1 := HA.out.frozen 1
            have lr := HA.out.lt
            have END := Lib.hid (fun u0 u1 => endO (r := w.heap.size) (w := w) (u0 := u0) (u1 := u1) (b0 + (p : Int)) rfl (by omega) hp2 hp1 hlen HW.out HT.out HS.out HG.out HD.out HLv.out HGR.out HLI.out HA.out)
            clear HW HT HS HG HD HLv HGR HLI HO1 HA
            go_wp2_with fail
            exact bodyPost_ret (v := .tuple #[.agg #[.iface 58 (.pointer (some ⟨wr.heap.size, 0, none⟩)), .int .i32 (b0 + (p : Int))], .int .i64 p', lv1]) (by simp [results, Try.results16, go_sem, *]) rfl (END.out _ _)
      · have END := Lib.hid (fun o1 o2 b => missEnd (n := n) (p := p) (p' := p + 1) (at_ := b0 + (p : Int)) HL.out (by omega) (by omega) (fun _ => by omega) o1 o2 b)
        go_enter Try.func16, Try.ntmps16
        go_wp2_with fail
        exact bodyPost_ret (v := .tuple #[.agg #[.iface 163 (.pointer (some ⟨w.heap.size + 1, 0, none⟩)), .int .i32 (b0 + (p : Int))], .int .i64 ((p + 1 : Nat) : Int), lv]) (by simp [results, Try.results16, go_sem, *]) rfl (END.out _ _ _)
    · obtain rfl : p = n := by omega
      have END := Lib.hid (fun o1 o2 b => missEnd (n := p) (p := p) (p' := p) (at_ := -1) hL (Nat.le_refl _) (Nat.le_refl _) (fun h => h) o1 o2 b)
      clear hO hL
      go_enter Try.func16, Try.ntmps16
      go_wp2_with fail
      exact bodyPost_ret (v := .tuple #[.agg #[.iface 163 (.pointer (some ⟨w.heap.size + 1, 0, none⟩)), .int .i32 (-1)], .int .i64 p, lv]) (by simp [results, Try.results16, go_sem, *]) rfl (END.out _ _ _)
end Go.Proofs.Ytppcfibhpgjnoaa
