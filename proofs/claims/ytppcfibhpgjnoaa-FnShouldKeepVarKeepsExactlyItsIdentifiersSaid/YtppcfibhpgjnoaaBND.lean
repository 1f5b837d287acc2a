/- Proved here: the contract of zzPat.binding. Conditions as stated. -/
import Derived.Test.YtppcfibhpgjnoaaNDA
import Derived.WalkKit
import Derived.WalkSpells
import Derived.WalkLawsBesides
import Derived.Lib.Hide
import Derived.Lib.SliceRun
import Derived.Deep.RegionWith
import Derived.OwnWalk
import Derived.Laws.OwnMore
import Derived.Deep.AppendLies
import Derived.BigQuiet
import Derived.Deep.RegionHeld3
import Derived.Deep.RegionLaw
namespace Go.Proofs.Ytppcfibhpgjnoaa
open Go.RowKit
set_option linter.unusedSimpArgs false
set_option linter.unusedVariables false

theorem infoABs : (Try.prog.info? 54).map (fun i => (i.zero, i.size, i.bytes)) = some (some (.agg #[.nilIface, .int .i32 0, .nilIface, .int .i32 0, .int .i32 0]), 5, 56) := by kernel_rfl
theorem infoPBs : (Try.prog.info? 60).map (fun i => (i.zero, i.size, i.bytes)) = some (some (.agg #[.nilIface, .int .i32 0, .nilIface, .int .i32 0, .nilIface, .int .i32 0, .int .i32 0, .int .i32 0, .bool false, .bool false, .bool false]), 11, 88) := by kernel_rfl
/-- Every block but Q and r is as it was. -/
structure Gr2 (Q : Nat) (r : Option Nat) (a b : World) : Prop where
  os : b.os = a.os
  tape : b.tape = a.tape
  output : b.output = a.output
  size : a.heap.size ≤ b.heap.size
  block : ∀ k, k < a.heap.size → k ≠ Q → r ≠ some k → b.heap[k]? = a.heap[k]?
theorem Gr2.refl (Q : Nat) (r : Option Nat) (a : World) : Gr2 Q r a a := ⟨rfl, rfl, rfl, Nat.le_refl _, fun _ _ _ _ => rfl⟩
theorem Gr2.trans {Q : Nat} {r r' : Option Nat} {a b c : World} (h : Gr2 Q r a b) (k : Gr2 Q r' b c) (hr : ∀ g, r' = some g → r = some g ∨ a.heap.size ≤ g) : Gr2 Q r a c :=
  ⟨k.os.trans h.os, k.tape.trans h.tape, k.output.trans h.output, Nat.le_trans h.size k.size, fun q hq h1 h2 => (k.block q (Nat.lt_of_lt_of_le hq h.size) h1 (fun e => by rcases hr q e with e' | e' <;> first | exact h2 e' | omega)).trans (h.block q hq h1 h2)⟩
theorem Gr2.of {Q : Nat} {r r' : Option Nat} {a b : World} (h : a.grownBy b r') (hr : ∀ g, r' = some g → r = some g ∨ g = Q ∨ a.heap.size ≤ g) : Gr2 Q r a b :=
  ⟨h.os, h.tape, h.output, h.size, fun q hq h1 h2 => h.block q hq (fun e => by rcases hr q e.symm with e' | e' | e' <;> first | exact h2 e' | exact h1 e' | omega)⟩
theorem Gr2.below {Q : Nat} {r : Option Nat} {a b : World} (h : Below a.heap.size a b) : Gr2 Q r a b := ⟨h.os, h.tape, h.output, h.size, fun q hq _ _ => h.block q hq⟩
theorem Gr2.set {Q : Nat} {r : Option Nat} {a b : World} (h : Gr2 Q r a b) (i : Nat) (v : Value) : Gr2 Q r a (b.setCell ⟨Q, i, none⟩ v) :=
  ⟨h.os, h.tape, h.output, by simp [World.setCell]; exact h.size, fun q hq h1 h2 => (Below.heap_setCell b ⟨Q, i, none⟩ v q (by simpa using h1)).trans (h.block q hq h1 h2)⟩
theorem Gr2.bel {Q B : Nat} {r : Option Nat} {a b : World} (h : Gr2 Q r a b) (hB : B ≤ a.heap.size) (hQ : B ≤ Q) (hr : ∀ k, r = some k → B ≤ k) : Below B a b := ⟨h.os, h.tape, h.output, h.size, fun q hq => h.block q (by omega) (by omega) (fun e => by have := hr q e; omega)⟩
def QN (w : World) (Q : Nat) (a : Option Addr) (n cap p : Nat) (l : Int) (idv : Value) : Prop := At w Q 71 #[.slice a n cap, .int .i64 p, .int .i32 l, idv]
def BDP (base Q n cap : Nat) (a : Option Addr) (p : Nat) (idv : Value) (im : Nat) (ys : List Value) (W : World) (e : Ending) (w' : World) : Prop :=
  ∃ (d : Value) (l : Int) (p' : Nat) (l' : Int) (S : Nat → Prop) (L : List (Nat × Int)) (ia : Option Addr) (ic : Nat), e = .returned (.agg #[d, .int .i32 l]) ∧ IsD d ∧ FI S w' d l L ∧ (∀ q, S q → W.heap.size ≤ q) ∧ p < p' ∧ p' ≤ n ∧ L.length ≤ p' - p ∧ QN w' Q a n cap p' l' (.slice ia (im + L.length) ic) ∧
    w'.ownsRow base 21 1 (.slice ia (im + L.length) ic) (im + L.length) (ys ++ locs L) ∧ Gr2 Q idv.ownBlock W w' ∧ (∀ k, (Value.slice ia (im + L.length) ic).ownBlock = some k → ¬ S k) ∧ Lies idv (.slice ia (im + L.length) ic) W
theorem endB {base Q n cap p p' im ic : Nat} {a ia : Option Addr} {l' l : Int} {idv : Value} {ys : List Value} {w X Y : World} {S' : Nat → Prop} {bT b : Nat} {L : List (Nat × Int)} (hQ : Q < w.heap.size) (hX : Gr2 Q idv.ownBlock w X) (hR : At X w.heap.size 44 #[.nilIface, .int .i32 0]) (hQN : QN X Q a n cap p' l' (.slice ia (im + L.length) ic)) (hY : Below X.heap.size X Y) (hS' : ∀ q, S' q → w.heap.size + 1 ≤ q)
    (hFI : FI S' Y (.iface bT (.pointer (some ⟨b, 0, none⟩))) l L) (hid : X.ownsRow base 21 1 (.slice ia (im + L.length) ic) (im + L.length) (ys ++ locs L)) (hdis : ∀ k, (Value.slice ia (im + L.length) ic).ownBlock = some k → ¬ S' k) (hli : Lies idv (.slice ia (im + L.length) ic) w)
    (hp : p < p') (hp2 : p' ≤ n) (hL : L.length ≤ p' - p) (u0 u1 : Value) :
    BDP base Q n cap a p idv im ys w (.returned (.agg #[.iface bT (.pointer (some ⟨b, 0, none⟩)), .int .i32 l])) ((Y.setCell ⟨w.heap.size, 0, none⟩ u0).setCell ⟨w.heap.size, 1, none⟩ u1) := by
  have zy := hY.size
  have hrx := hR.lt
  have K : ∀ q, q ≠ w.heap.size → ((Y.setCell ⟨w.heap.size, 0, none⟩ u0).setCell ⟨w.heap.size, 1, none⟩ u1).heap[q]? = Y.heap[q]? := fun q hq => by rw [Below.heap_setCell _ _ _ q (by simpa using hq), Below.heap_setCell _ _ _ q (by simpa using hq)]
  have nr : (Value.slice ia (im + L.length) ic).ownBlock ≠ some w.heap.size := atNe hid hR (by decide)
  refine ⟨_, l, p', l', S', L, ia, ic, rfl, ⟨_, _, rfl⟩, hFI.keep (by simp [World.setCell]) (fun q hq => K q (by have := hS' q hq; omega)), fun q hq => by have := hS' q hq; omega, hp, hp2, hL, ?_, ?_, ?_, hdis, hli⟩
  · exact (K Q (by omega)).trans ((hY.block Q (by have := hX.size; omega)).trans hQN)
  · exact ownKeep hid (fun k hk => (K k (fun e => nr (e ▸ hk))).trans (hY.block k (ownLt hid k hk)))
  · have g1 : Gr2 Q idv.ownBlock w Y := hX.trans (Gr2.below (r := none) hY) (fun g hg => by cases hg)
    exact ⟨g1.os, g1.tape, g1.output, by simp [World.setCell]; exact g1.size, fun q hq h1 h2 => (K q (by omega)).trans (g1.block q hq h1 h2)⟩
/-- The loop over the parts of a pattern. -/
structure BX (base Q n cap r E SZ : Nat) (IT : (Nat → Prop) → World → List Value → Nat → (Nat → List (Nat × Int)) → Prop) (a : Option Addr) (zs : List Int) (im : Nat) (ys : List Value) (w : World) (idv : Value) (j p' g c : Nat) (l' : Int) (xs : List Value) (Ls : Nat → List (Nat × Int)) (S : Nat → Prop) (ia : Option Addr) (ic : Nat) (wr : World) : Prop where
  q : QN wr Q a n cap p' l' (.slice ia (im + (cat Ls j).length) ic)
  own : wr.ownsRow (r + 1) E SZ (.slice (some ⟨g, 0, none⟩) j c) j xs
  it : IT S wr xs j Ls
  s : ∀ q, S q → r + 1 ≤ q ∧ q < wr.heap.size
  ng : ¬ S g
  ids : wr.ownsRow base 21 1 (.slice ia (im + (cat Ls j).length) ic) (im + (cat Ls j).length) (ys ++ locs (cat Ls j))
  dis : ∀ k, (Value.slice ia (im + (cat Ls j).length) ic).ownBlock = some k → ¬ S k
  gr : Gr2 Q idv.ownBlock w wr
  lies : Lies idv (.slice ia (im + (cat Ls j).length) ic) w
  at_ : At wr r 44 #[.nilIface, .int .i32 0]
  ops : Ops base wr a n zs
def BR (base Q n cap N r E SZ : Nat) (IT : (Nat → Prop) → World → List Value → Nat → (Nat → List (Nat × Int)) → Prop) (a : Option Addr) (zs : List Int) (p im : Nat) (ys : List Value) (w : World) (idv : Value) (s i : Value) (wr : World) : Prop :=
  ∃ (j p' g c : Nat) (l' : Int) (xs : List Value) (Ls : Nat → List (Nat × Int)) (S : Nat → Prop) (ia : Option Addr) (ic : Nat), j ≤ N ∧ i = .int .i64 j ∧ s = .slice (some ⟨g, 0, none⟩) j c ∧ p < p' ∧ p' ≤ n ∧ (cat Ls j).length ≤ p' - p ∧ Hid (BX base Q n cap r E SZ IT a zs im ys w idv j p' g c l' xs Ls S ia ic wr)

theorem stepBA {base Q n cap N r p j p' g c p2 g' c' ty bq im ic ic2 : Nat} {l' l2 l : Int} {a ia ia2 : Option Addr} {zs : List Int} {idv : Value} {ys xs : List Value} {Ls : Nat → List (Nat × Int)} {L2 : List (Nat × Int)} {S S2 : Nat → Prop} {w wr w2 V w3 : World} {dv : Value} {ex1 ex2 : Int} (hdv : IsN dv)
    (hr : r = w.heap.size) (hB : base ≤ w.heap.size) (hQ : Q < w.heap.size) (hbQ : base ≤ Q) (hidv : ∀ k, idv.ownBlock = some k → base ≤ k) (hj : j < N) (hp : p < p') (hp3 : p' < p2) (hp4 : p2 ≤ n) (hlen : (cat Ls j).length ≤ p' - p)
    (H : BX base Q n cap r 54 5 ItA a zs im ys w idv j p' g c l' xs Ls S ia ic wr)
    (hfi : FI S2 w2 (.iface ty (.pointer (some ⟨bq, 0, none⟩))) l L2) (hS2 : ∀ q, S2 q → wr.heap.size ≤ q) (hL2 : L2.length ≤ p2 - p') (hQ2 : QN w2 Q a n cap p2 l2 (.slice ia2 (im + (cat Ls j).length + L2.length) ic2)) (hid2 : w2.ownsRow base 21 1 (.slice ia2 (im + (cat Ls j).length + L2.length) ic2) (im + (cat Ls j).length + L2.length) ((ys ++ locs (cat Ls j)) ++ locs L2)) (hg2 : Gr2 Q (Value.slice ia (im + (cat Ls j).length) ic).ownBlock wr w2) (hd2 : ∀ k, (Value.slice ia2 (im + (cat Ls j).length + L2.length) ic2).ownBlock = some k → ¬ S2 k) (hli2 : Lies (.slice ia (im + (cat Ls j).length) ic) (.slice ia2 (im + (cat Ls j).length + L2.length) ic2) wr)
    (hV : Below w2.heap.size w2 V) (ho3 : w3.ownsRow (r + 1) 54 5 (.slice (some ⟨g', 0, none⟩) (j + 1) c') (j + 1) (xs ++ [.iface ty (.pointer (some ⟨bq, 0, none⟩)), .int .i32 l, dv, .int .i32 ex1, .int .i32 ex2])) (hg3 : V.grownBy w3 (some g)) (hlie : some g = some g' ∨ g' = V.heap.size) :
    BR base Q n cap N r 54 5 ItA a zs p im ys w idv (.slice (some ⟨g', 0, none⟩) (j + 1) c') (.int .i64 ((j + 1 : Nat) : Int)) w3 := by
  subst hr
  have zg := World.ownsRow.lt H.own g rfl
  have z1 := H.gr.size
  have z2 := hg2.size
  have zV := hV.size
  have z3 := hg3.size
  have K2 : ∀ q, q < wr.heap.size → q ≠ Q → (Value.slice ia (im + (cat Ls j).length) ic).ownBlock ≠ some q → w2.heap[q]? = wr.heap[q]? := fun q hq h1 h2 => hg2.block q hq h1 h2
  have K3 : ∀ q, q < w2.heap.size → q ≠ g → w3.heap[q]? = w2.heap[q]? := fun q hq hg => (hg3.block q (by omega) (by simp; omega)).trans (hV.block q hq)
  have S2lt := hfi.1
  have ng1 : (Value.slice ia (im + (cat Ls j).length) ic).ownBlock ≠ some g := ownNe H.own H.ids (by decide) rfl
  have nr1 : (Value.slice ia (im + (cat Ls j).length) ic).ownBlock ≠ some w.heap.size := atNe H.ids H.at_ (by decide)
  have hr := H.at_.lt
  have HW2 : w2.ownsRow (w.heap.size + 1) 54 5 (.slice (some ⟨g, 0, none⟩) j c) j xs := ownKeep H.own (fun k hk => by simp only [Value.ownBlock, Option.some.injEq] at hk; subst hk; exact K2 _ zg.2 (by omega) ng1)
  have ng2 : (Value.slice ia2 (im + (cat Ls j).length + L2.length) ic2).ownBlock ≠ some g := ownNe HW2 hid2 (by decide) rfl
  have GW : Gr2 Q idv.ownBlock w w3 := by
    have g1 : Gr2 Q idv.ownBlock w w2 := H.gr.trans hg2 (fun k hk => by
      rcases H.lies with h | ⟨q, h, hq⟩
      · left; rw [← h]; exact hk
      · right; rw [h] at hk; simp only [Option.some.injEq] at hk; omega)
    have g2 : Gr2 Q idv.ownBlock w V := g1.trans (Gr2.below (r := none) hV) (fun k hk => by cases hk)
    exact g2.trans (Gr2.of (r := some g) hg3 (fun k hk => .inl hk)) (fun k hk => by simp only [Option.some.injEq] at hk; right; omega)
  have OB : Ops base w3 a n zs := H.ops.keep (by
    have g1 : Gr2 Q (Value.slice ia (im + (cat Ls j).length) ic).ownBlock wr V := hg2.trans (Gr2.below (r := none) hV) (fun k hk => by cases hk)
    have g2 : Gr2 Q (Value.slice ia (im + (cat Ls j).length) ic).ownBlock wr V := g1
    exact (g2.bel (by omega) hbQ (fun k hk => (World.ownsRow.lt H.ids k hk).1)).trans (gBelow hg3 (by omega) (fun k hk => by simp only [Option.some.injEq] at hk; omega)))
  have LI : Lies idv (.slice ia2 (im + (cat Ls j).length + L2.length) ic2) w := Lies.trans H.lies hli2 z1
  have e1 : im + (cat (fun q => if q = j then L2 else Ls q) (j + 1)).length = im + (cat Ls j).length + L2.length := by rw [cat_snoc, List.length_append]; omega
  refine ⟨j + 1, p2, g', c', l2, xs ++ [.iface ty (.pointer (some ⟨bq, 0, none⟩)), .int .i32 l, dv, .int .i32 ex1, .int .i32 ex2], fun q => if q = j then L2 else Ls q, fun q => S q ∨ S2 q, ia2, ic2, by omega, rfl, rfl, by omega, hp4, by rw [cat_snoc]; simp; omega, Lib.hid ⟨?_, ho3, ?_, ?_, ?_, ?_, ?_, GW, ?_, ?_, ?_⟩⟩
  · rw [e1]; exact (K3 Q hQ2.lt (by omega)).trans hQ2
  · have bnd : ∀ q, (S q ∨ S2 q) → q < w3.heap.size := fun q hq => by
      rcases hq with hq | hq
      · have := H.s q hq; omega
      · have := S2lt q hq; omega
    refine ItA.snoc ((H.it.keep (by omega) (fun q hq => ?_)).more (fun _ h => .inl h) bnd) _ _ _ _ _ _ ⟨_, _, rfl⟩ hdv ((hfi.keep (by omega) (fun q hq => ?_)).more (fun _ h => .inr h) bnd)
    · have h := H.s q hq
      exact (K3 q (by omega) (fun e => H.ng (e ▸ hq))).trans (K2 q h.2 (by omega) (fun e => H.dis q e hq))
    · exact K3 q (S2lt q hq) (by have := hS2 q hq; omega)
  · intro q hq
    rcases hq with hq | hq
    · have := H.s q hq; omega
    · have := S2lt q hq; have := hS2 q hq; omega
  · intro hq
    rcases hlie with h | h
    · simp only [Option.some.injEq] at h
      subst h
      rcases hq with hq | hq
      · exact H.ng hq
      · have := hS2 _ hq; omega
    · subst h
      rcases hq with hq | hq
      · have := (H.s _ hq).2; omega
      · have := S2lt _ hq; omega
  · rw [e1]
    have h := ownKeep (w' := w3) hid2 (fun k hk => K3 k (ownLt hid2 k hk) (fun e => ng2 (e ▸ hk)))
    rw [cat_snoc, locs_app]
    simpa using h
  · intro k hk hs
    rw [e1] at hk
    rcases hs with hs | hs
    · exact Lies.not hli2 (fun q hq => (H.s q hq).2) H.dis k hk hs
    · exact hd2 k hk hs
  · rw [e1]; exact LI
  · exact (K3 _ (by omega) (by omega)).trans ((K2 _ hr (by omega) nr1).trans H.at_)
  · exact OB

theorem endKA {base Q n cap r p j p' g c im ic : Nat} {l' l : Int} {a ia : Option Addr} {zs : List Int} {idv : Value} {ys xs : List Value} {Ls : Nat → List (Nat × Int)} {S : Nat → Prop} {w wr Y : World} {b : Nat}
    (hr : r = w.heap.size) (hQ : Q < w.heap.size) (hj : j ≤ 3) (hp : p < p') (hp4 : p' ≤ n) (hlen : (cat Ls j).length ≤ p' - p)
    (H : BX base Q n cap r 54 5 ItA a zs im ys w idv j p' g c l' xs Ls S ia ic wr) (hA : At Y b 57 #[.slice (some ⟨g, 0, none⟩) j c, .int .i32 0, .bool false, .bool false]) (hb : wr.heap.size ≤ b) (hY : Below wr.heap.size wr Y) (u0 u1 : Value) :
    BDP base Q n cap a p idv im ys w (.returned (.agg #[.iface 48 (.pointer (some ⟨b, 0, none⟩)), .int .i32 l])) ((Y.setCell ⟨w.heap.size, 0, none⟩ u0).setCell ⟨w.heap.size, 1, none⟩ u1) := by
  subst hr
  have zg := World.ownsRow.lt H.own g rfl
  have lb := hA.lt
  have zy := hY.size
  have bnd : ∀ q, ((S q ∨ q = g) ∨ q = b) → q < Y.heap.size := fun q hq => by
    rcases hq with (hq | rfl) | rfl
    · have := H.s q hq; omega
    · omega
    · omega
  have ng1 : (Value.slice ia (im + (cat Ls j).length) ic).ownBlock ≠ some g := ownNe H.own H.ids (by decide) rfl
  refine endB (S' := fun q => (S q ∨ q = g) ∨ q = b) hQ H.gr H.at_ H.q hY (fun q hq => ?_) (fiArr _ b g j c l xs Ls (w.heap.size + 1) #[] Y (.inr rfl) (.inl (.inr rfl)) (by rw [hA.cell]; rfl) (ownKeep H.own (fun k hk => by simp only [Value.ownBlock, Option.some.injEq] at hk; subst hk; exact hY.block _ zg.2)) ((H.it.keep zy (fun q hq => hY.block q (H.s q hq).2)).more (fun _ h => .inl (.inl h)) bnd) bnd (by omega)) H.ids (fun k hk hs => ?_) H.lies hp hp4 hlen u0 u1
  · have := H.at_.lt
    rcases hq with (hq | rfl) | rfl
    · have := H.s q hq; omega
    · omega
    · omega
  · rcases hs with (hs | rfl) | rfl
    · exact H.dis k hk hs
    · exact ng1 hk
    · have := ownLt H.ids k hk; omega

theorem stepBO {base Q n cap N r p j p' g c p2 g' c' ty bq im ic ic2 : Nat} {l' l2 l : Int} {a ia ia2 : Option Addr} {zs : List Int} {idv : Value} {ys xs : List Value} {Ls : Nat → List (Nat × Int)} {L2 : List (Nat × Int)} {S S2 : Nat → Prop} {w wr w2 V w3 : World}
    (hr : r = w.heap.size) (hB : base ≤ w.heap.size) (hQ : Q < w.heap.size) (hbQ : base ≤ Q) (hidv : ∀ k, idv.ownBlock = some k → base ≤ k) (hj : j < N) (hp : p < p') (hp3 : p' < p2) (hp4 : p2 ≤ n) (hlen : (cat Ls j).length ≤ p' - p)
    (H : BX base Q n cap r 60 11 ItO a zs im ys w idv j p' g c l' xs Ls S ia ic wr)
    (hfi : FI S2 w2 (.iface ty (.pointer (some ⟨bq, 0, none⟩))) l L2) (hS2 : ∀ q, S2 q → wr.heap.size ≤ q) (hL2 : L2.length ≤ p2 - p') (hQ2 : QN w2 Q a n cap p2 l2 (.slice ia2 (im + (cat Ls j).length + L2.length) ic2)) (hid2 : w2.ownsRow base 21 1 (.slice ia2 (im + (cat Ls j).length + L2.length) ic2) (im + (cat Ls j).length + L2.length) ((ys ++ locs (cat Ls j)) ++ locs L2)) (hg2 : Gr2 Q (Value.slice ia (im + (cat Ls j).length) ic).ownBlock wr w2) (hd2 : ∀ k, (Value.slice ia2 (im + (cat Ls j).length + L2.length) ic2).ownBlock = some k → ¬ S2 k) (hli2 : Lies (.slice ia (im + (cat Ls j).length) ic) (.slice ia2 (im + (cat Ls j).length + L2.length) ic2) wr)
    (hV : Below w2.heap.size w2 V) (ho3 : w3.ownsRow (r + 1) 60 11 (.slice (some ⟨g', 0, none⟩) (j + 1) c') (j + 1) (xs ++ [.nilIface, .int .i32 0, .iface ty (.pointer (some ⟨bq, 0, none⟩)), .int .i32 l, .nilIface, .int .i32 0, .int .i32 0, .int .i32 0, .bool false, .bool false, .bool false])) (hg3 : V.grownBy w3 (some g)) (hlie : some g = some g' ∨ g' = V.heap.size) :
    BR base Q n cap N r 60 11 ItO a zs p im ys w idv (.slice (some ⟨g', 0, none⟩) (j + 1) c') (.int .i64 ((j + 1 : Nat) : Int)) w3 := by
  subst hr
  have zg := World.ownsRow.lt H.own g rfl
  have z1 := H.gr.size
  have z2 := hg2.size
  have zV := hV.size
  have z3 := hg3.size
  have K2 : ∀ q, q < wr.heap.size → q ≠ Q → (Value.slice ia (im + (cat Ls j).length) ic).ownBlock ≠ some q → w2.heap[q]? = wr.heap[q]? := fun q hq h1 h2 => hg2.block q hq h1 h2
  have K3 : ∀ q, q < w2.heap.size → q ≠ g → w3.heap[q]? = w2.heap[q]? := fun q hq hg => (hg3.block q (by omega) (by simp; omega)).trans (hV.block q hq)
  have S2lt := hfi.1
  have ng1 : (Value.slice ia (im + (cat Ls j).length) ic).ownBlock ≠ some g := ownNe H.own H.ids (by decide) rfl
  have nr1 : (Value.slice ia (im + (cat Ls j).length) ic).ownBlock ≠ some w.heap.size := atNe H.ids H.at_ (by decide)
  have hr := H.at_.lt
  have HW2 : w2.ownsRow (w.heap.size + 1) 60 11 (.slice (some ⟨g, 0, none⟩) j c) j xs := ownKeep H.own (fun k hk => by simp only [Value.ownBlock, Option.some.injEq] at hk; subst hk; exact K2 _ zg.2 (by omega) ng1)
  have ng2 : (Value.slice ia2 (im + (cat Ls j).length + L2.length) ic2).ownBlock ≠ some g := ownNe HW2 hid2 (by decide) rfl
  have GW : Gr2 Q idv.ownBlock w w3 := by
    have g1 : Gr2 Q idv.ownBlock w w2 := H.gr.trans hg2 (fun k hk => by
      rcases H.lies with h | ⟨q, h, hq⟩
      · left; rw [← h]; exact hk
      · right; rw [h] at hk; simp only [Option.some.injEq] at hk; omega)
    have g2 : Gr2 Q idv.ownBlock w V := g1.trans (Gr2.below (r := none) hV) (fun k hk => by cases hk)
    exact g2.trans (Gr2.of (r := some g) hg3 (fun k hk => .inl hk)) (fun k hk => by simp only [Option.some.injEq] at hk; right; omega)
  have OB : Ops base w3 a n zs := H.ops.keep (by
    have g1 : Gr2 Q (Value.slice ia (im + (cat Ls j).length) ic).ownBlock wr V := hg2.trans (Gr2.below (r := none) hV) (fun k hk => by cases hk)
    have g2 : Gr2 Q (Value.slice ia (im + (cat Ls j).length) ic).ownBlock wr V := g1
    exact (g2.bel (by omega) hbQ (fun k hk => (World.ownsRow.lt H.ids k hk).1)).trans (gBelow hg3 (by omega) (fun k hk => by simp only [Option.some.injEq] at hk; omega)))
  have LI : Lies idv (.slice ia2 (im + (cat Ls j).length + L2.length) ic2) w := Lies.trans H.lies hli2 z1
  have e1 : im + (cat (fun q => if q = j then L2 else Ls q) (j + 1)).length = im + (cat Ls j).length + L2.length := by rw [cat_snoc, List.length_append]; omega
  refine ⟨j + 1, p2, g', c', l2, xs ++ [.nilIface, .int .i32 0, .iface ty (.pointer (some ⟨bq, 0, none⟩)), .int .i32 l, .nilIface, .int .i32 0, .int .i32 0, .int .i32 0, .bool false, .bool false, .bool false], fun q => if q = j then L2 else Ls q, fun q => S q ∨ S2 q, ia2, ic2, by omega, rfl, rfl, by omega, hp4, by rw [cat_snoc]; simp; omega, Lib.hid ⟨?_, ho3, ?_, ?_, ?_, ?_, ?_, GW, ?_, ?_, ?_⟩⟩
  · rw [e1]; exact (K3 Q hQ2.lt (by omega)).trans hQ2
  · have bnd : ∀ q, (S q ∨ S2 q) → q < w3.heap.size := fun q hq => by
      rcases hq with hq | hq
      · have := H.s q hq; omega
      · have := S2lt q hq; omega
    refine ItO.snoc ((H.it.keep (by omega) (fun q hq => ?_)).more (fun _ h => .inl h) bnd) _ _ _ ⟨_, _, rfl⟩ ((hfi.keep (by omega) (fun q hq => ?_)).more (fun _ h => .inr h) bnd)
    · have h := H.s q hq
      exact (K3 q (by omega) (fun e => H.ng (e ▸ hq))).trans (K2 q h.2 (by omega) (fun e => H.dis q e hq))
    · exact K3 q (S2lt q hq) (by have := hS2 q hq; omega)
  · intro q hq
    rcases hq with hq | hq
    · have := H.s q hq; omega
    · have := S2lt q hq; have := hS2 q hq; omega
  · intro hq
    rcases hlie with h | h
    · simp only [Option.some.injEq] at h
      subst h
      rcases hq with hq | hq
      · exact H.ng hq
      · have := hS2 _ hq; omega
    · subst h
      rcases hq with hq | hq
      · have := (H.s _ hq).2; omega
      · have := S2lt _ hq; omega
  · rw [e1]
    have h := ownKeep (w' := w3) hid2 (fun k hk => K3 k (ownLt hid2 k hk) (fun e => ng2 (e ▸ hk)))
    rw [cat_snoc, locs_app]
    simpa using h
  · intro k hk hs
    rw [e1] at hk
    rcases hs with hs | hs
    · exact Lies.not hli2 (fun q hq => (H.s q hq).2) H.dis k hk hs
    · exact hd2 k hk hs
  · rw [e1]; exact LI
  · exact (K3 _ (by omega) (by omega)).trans ((K2 _ hr (by omega) nr1).trans H.at_)
  · exact OB

theorem endKO {base Q n cap r p j p' g c im ic : Nat} {l' l : Int} {a ia : Option Addr} {zs : List Int} {idv : Value} {ys xs : List Value} {Ls : Nat → List (Nat × Int)} {S : Nat → Prop} {w wr Y : World} {b : Nat}
    (hr : r = w.heap.size) (hQ : Q < w.heap.size) (hj : j ≤ 3) (hp : p < p') (hp4 : p' ≤ n) (hlen : (cat Ls j).length ≤ p' - p)
    (H : BX base Q n cap r 60 11 ItO a zs im ys w idv j p' g c l' xs Ls S ia ic wr) (hA : At Y b 63 #[.slice (some ⟨g, 0, none⟩) j c, .int .i32 0, .bool false]) (hb : wr.heap.size ≤ b) (hY : Below wr.heap.size wr Y) (u0 u1 : Value) :
    BDP base Q n cap a p idv im ys w (.returned (.agg #[.iface 58 (.pointer (some ⟨b, 0, none⟩)), .int .i32 l])) ((Y.setCell ⟨w.heap.size, 0, none⟩ u0).setCell ⟨w.heap.size, 1, none⟩ u1) := by
  subst hr
  have zg := World.ownsRow.lt H.own g rfl
  have lb := hA.lt
  have zy := hY.size
  have bnd : ∀ q, ((S q ∨ q = g) ∨ q = b) → q < Y.heap.size := fun q hq => by
    rcases hq with (hq | rfl) | rfl
    · have := H.s q hq; omega
    · omega
    · omega
  have ng1 : (Value.slice ia (im + (cat Ls j).length) ic).ownBlock ≠ some g := ownNe H.own H.ids (by decide) rfl
  refine endB (S' := fun q => (S q ∨ q = g) ∨ q = b) hQ H.gr H.at_ H.q hY (fun q hq => ?_) (fiObj _ b g j c l xs Ls (w.heap.size + 1) #[] Y (.inr rfl) (.inl (.inr rfl)) (by rw [hA.cell]; rfl) (ownKeep H.own (fun k hk => by simp only [Value.ownBlock, Option.some.injEq] at hk; subst hk; exact hY.block _ zg.2)) ((H.it.keep zy (fun q hq => hY.block q (H.s q hq).2)).more (fun _ h => .inl (.inl h)) bnd) bnd (by omega)) H.ids (fun k hk hs => ?_) H.lies hp hp4 hlen u0 u1
  · have := H.at_.lt
    rcases hq with (hq | rfl) | rfl
    · have := H.s q hq; omega
    · omega
    · omega
  · rcases hs with (hs | rfl) | rfl
    · exact H.dis k hk hs
    · exact ng1 hk
    · have := ownLt H.ids k hk; omega

set_option maxRecDepth 100000 in
set_option maxHeartbeats 8000000 in
theorem bd0 (base n cap B off Q : Nat) (zs : List Int) (hn : n ≤ 4096) (hz : ∀ i, 0 ≤ zs.getD i 0 ∧ zs.getD i 0 ≤ 255) (hbQ : base ≤ Q) (hBb : B < base) (m : Nat) (ih : ∀ (p : Nat) (l : Int) (w : World) (ia : Option Addr) (ic im : Nat) (ys : List Value), n - p ≤ m → p < n → QN w Q (some ⟨B, off, none⟩) n cap p l (.slice ia im ic) → w.ownsRow base 21 1 (.slice ia im ic) im ys → Ops base w (some ⟨B, off, none⟩) n zs → im + (n - p) ≤ 8192 → Calls Try.prog 19 #[.pointer (some ⟨Q, 0, none⟩)] w (BDP base Q n cap (some ⟨B, off, none⟩) p (.slice ia im ic) im ys w)) (p : Nat) (l : Int) (w : World) (ia : Option Addr) (ic im : Nat) (ys : List Value) (hm : n - p ≤ m + 1) (hpn : p < n) (hQN : QN w Q (some ⟨B, off, none⟩) n cap p l (.slice ia im ic)) (hid : w.ownsRow base 21 1 (.slice ia im ic) im ys) (hO : Ops base w (some ⟨B, off, none⟩) n zs) (hS : im + (n - p) ≤ 8192) (z : Int) (c0 : w.cell? ⟨B, off + p, none⟩ = some (.int .u8 z)) (z0 : 0 ≤ z) (z1 : z ≤ 255) (hk : z % 3 = 0) :
    Calls Try.prog 19 #[.pointer (some ⟨Q, 0, none⟩)] w (BDP base Q n cap (some ⟨B, off, none⟩) p (.slice ia im ic) im ys w) := by
  have HZ := Lib.hid hz
  have HO := Lib.hid hO
  have HQN := Lib.hid hQN
  have HID := Lib.hid hid
  have lB : B < w.heap.size := World.block_lt_of_cell? _ _ c0
  have lQ := hQN.lt
  have nQB : ¬ Q = B := by omega
  have nBQ : ¬ B = Q := by omega
  have nid : (Value.slice ia im ic).ownBlock ≠ some Q := atNe hid hQN (by decide)
  have HID0 := Lib.hid (show ∀ k, (Value.slice ia im ic).ownBlock = some k → base ≤ k ∧ k < w.heap.size from World.ownsRow.lt hid)
  have v0 : w.cell? ⟨Q, 0, none⟩ = some (.slice (some ⟨B, off, none⟩) n cap) := by rw [hQN.cell]; rfl
  have v1 : w.cell? ⟨Q, 1, none⟩ = some (.int .i64 p) := by rw [hQN.cell]; rfl
  have v2 : w.cell? ⟨Q, 2, none⟩ = some (.int .i32 l) := by rw [hQN.cell]; rfl
  have v3 : w.cell? ⟨Q, 3, none⟩ = some (.slice ia im ic) := by rw [hQN.cell]; rfl
  have f0 := hQN.frozen 0
  have f1 := hQN.frozen 1
  have f2 := hQN.frozen 2
  have f3 := hQN.frozen 3
  have p0 : (0 : Int) ≤ (p : Int) := Int.natCast_nonneg _
  have p1 : (p : Int) < (n : Int) := by omega
  obtain ⟨N, hN⟩ : ∃ N : Nat, z / 3 % 4 = (N : Int) := ⟨(z / 3 % 4).toNat, by omega⟩
  have hN3 : N ≤ 3 := by omega
  have zdp : 0 ≤ z / 3 := by omega
  clear hz hO hQN hid
  go_enter Try.func19, Try.ntmps19
  go_wp2_with fail
  go_quiet (fail)
  obtain ⟨l1, hl1⟩ : ∃ x, x = wrap32 (l + 1) := ⟨_, rfl⟩
  rw [← hl1]
  obtain ⟨V0, hV⟩ : ∃ V, V = (((w.setCell ⟨Q, 2, none⟩ (.int .i32 l1)).alloc (.cells #[.nilIface, .int .i32 0] 44)).drewN nq) := ⟨_, rfl⟩
  have K0 : ∀ q, q < w.heap.size → q ≠ Q → V0.heap[q]? = w.heap[q]? := fun q hq h1 => by
    rw [hV]
    exact (Below.heap_alloc (w.setCell ⟨Q, 2, none⟩ (.int .i32 l1)) _ q (by simpa [World.setCell] using hq)).trans (Below.heap_setCell w ⟨Q, 2, none⟩ _ q (by simpa using h1))
  have HQ0 := Lib.hid (show QN V0 Q (some ⟨B, off, none⟩) n cap p l1 (.slice ia im ic) from by
    have h := ((HQN.out.set 2 (.int .i32 l1)).alloc (.cells #[.nilIface, .int .i32 0] 44)).drewN nq
    rw [hV]
    simpa [QN] using h)
  have HR0 := Lib.hid (show At V0 w.heap.size 44 #[.nilIface, .int .i32 0] from by
    have h : At ((w.setCell ⟨Q, 2, none⟩ (.int .i32 l1)).alloc (.cells #[.nilIface, .int .i32 0] 44)) w.heap.size 44 #[.nilIface, .int .i32 0] := atNewB (by simp [World.setCell]) _ _
    rw [hV]
    exact h.drewN nq)
  have zz0 : w.heap.size + 1 ≤ V0.heap.size := by rw [hV]; simp [World.setCell]
  have zz1 : V0.heap.size ≤ w.heap.size + 1 := by rw [hV]; simp [World.setCell]
  have HG0 := Lib.hid (show Gr2 Q (Value.slice ia im ic).ownBlock w V0 from ⟨by rw [hV]; rfl, by rw [hV]; rfl, by rw [hV]; rfl, by omega, fun q hq h1 _ => K0 q hq h1⟩)
  have HI0 := Lib.hid (show V0.ownsRow base 21 1 (.slice ia im ic) im ys from ownKeep HID.out (fun q hq => K0 q (HID0.out q hq).2 (fun e => nid (e ▸ hq))))
  have HO0 := Lib.hid (show Ops base V0 (some ⟨B, off, none⟩) n zs from HO.out.keep (HG0.out.bel (by omega) hbQ (fun q hq => (HID0.out q hq).1)))
  rw [← hV]
  clear hl1 hV K0 c0 v0 v1 v2 v3 f0 f1 f2 f3 HQN HID
  have v0 : V0.cell? ⟨Q, 0, none⟩ = some (.slice (some ⟨B, off, none⟩) n cap) := by rw [HQ0.out.cell]; rfl
  have v1 : V0.cell? ⟨Q, 1, none⟩ = some (.int .i64 p) := by rw [HQ0.out.cell]; rfl
  have v3 : V0.cell? ⟨Q, 3, none⟩ = some (.slice ia im ic) := by rw [HQ0.out.cell]; rfl
  have f1 := HQ0.out.frozen 1
  have f3 := HQ0.out.frozen 3
  have lQ0 := HQ0.out.lt
  obtain ⟨iI, hi3, ht0, ht1, ht2⟩ := info_parts infoI
  have II := Lib.hid hi3
  have II0 := Lib.hid ht0
  have II1 := Lib.hid ht1
  have II2 := Lib.hid ht2
  clear hi3 ht0 ht1 ht2
  have KX : ∀ (u : Value) (o : Obj) q, q < V0.heap.size → q ≠ Q → ((V0.setCell ⟨Q, 1, none⟩ u).alloc o).heap[q]? = V0.heap[q]? := fun u o q hq h1 => (Below.heap_alloc (V0.setCell ⟨Q, 1, none⟩ u) _ q (by simpa [World.setCell] using hq)).trans (Below.heap_setCell V0 ⟨Q, 1, none⟩ _ q (by simpa using h1))
  have OWN := Lib.hid (show ∀ u o, ((V0.setCell ⟨Q, 1, none⟩ u).alloc o).ownsRow base 21 1 (.slice ia im ic) im ys from fun u o => ownKeep HI0.out (fun q hq => KX u o q (ownLt HI0.out q hq) (fun e => nid (e ▸ hq))))
  have F1 := Lib.hid (show ∀ v, ∀ q u, ([.int .i32 l1] : List Value)[q]? = some u → ((V0.setCell ⟨Q, 1, none⟩ v).alloc (.cells #[.int .i32 l1] 21)).cell? ((⟨V0.heap.size, 0, none⟩ : Addr).add q) = some u from fun v => by
    have hh := heap_alloc_new (V0.setCell ⟨Q, 1, none⟩ v) (.cells #[.int .i32 l1] 21)
    rw [show (V0.setCell ⟨Q, 1, none⟩ v).heap.size = V0.heap.size from by simp [World.setCell]] at hh
    exact World.news_of_block (cs := #[.int .i32 l1]) (t := 21) (fr := (0, 0)) hh)
  have F2 : im + 1 ≤ maxLen := by unfold maxLen; omega
  have F3 : (im + 1) * 4 ≤ 140737488355328 := by omega
  have F4 := Lib.hid (show ∀ v o, base ≤ ((V0.setCell ⟨Q, 1, none⟩ v).alloc o).heap.size from fun v o => by simp [World.setCell]; omega)
  have F5 := Lib.hid (show ∀ v o, ((V0.setCell ⟨Q, 1, none⟩ v).alloc o).heap.size = V0.heap.size + 1 from fun v o => by simp [World.setCell])
  have F6 := Lib.hid (show ∀ u ∈ ([.int .i32 l1] : List Value), u.oneCell' = true from by simp [Value.oneCell'])
  have HKX := Lib.hid KX
  clear KX
  go_wp2_with (with_reducible refine wpList_append_lies _ (o := ⟨some 54, _, _, _, _, _⟩) rfl _ _ 45 rfl base 21 iI _ 1 4 Try.underlying45 II.out II0.out II1.out II2.out rfl (by omega) (.slice ia im ic) im ys rfl (OWN.out _ _) ⟨V0.heap.size, 0, none⟩ 1 1 [.int .i32 l1] rfl rfl (F1.out _) F6.out (by omega) F2 F3 (F4.out _ _) (V0.heap.size + 1) (F5.out _ _) ?_)
  intro g c w1 ho hgr hlie hlt
  have hgrs := hgr.size
  rw [F5.out] at hgrs
  have hQ1 : QN w1 Q (some ⟨B, off, none⟩) n cap (p + 1) l1 (.slice ia im ic) := by
    have h : At ((V0.setCell ⟨Q, 1, none⟩ (.int .i64 ((p : Int) + 1))).alloc (.cells #[.int .i32 l1] 21)) Q 71 _ := (HQ0.out.set 1 (.int .i64 ((p : Int) + 1))).alloc _
    have h2 := (hgr.block Q (by rw [F5.out]; omega) (Ne.symm nid)).trans h
    simpa [QN, At] using h2
  have hR1 : At w1 w.heap.size 44 #[.nilIface, .int .i32 0] := (hgr.block _ (by rw [F5.out]; omega) (fun e => by have := HID0.out _ e.symm; omega)).trans ((HKX.out _ _ _ (by omega) (by omega)).trans HR0.out)
  have hng : g ≠ Q := by
    rcases hlie with h | h
    · intro e; exact nid (by rw [h, e])
    · omega
  have hG1 : Gr2 Q (Value.slice ia im ic).ownBlock w w1 := by
    refine HG0.out.trans (r' := (Value.slice ia im ic).ownBlock) ⟨hgr.os, hgr.tape, hgr.output, by omega, fun q hq h1 h2 => (hgr.block q (by rw [F5.out]; omega) (Ne.symm h2)).trans (HKX.out _ _ q hq h1)⟩ (fun k hk => .inl hk)
  have q3 := hQ1.frozen 3
  have q4 : w1.cell? ⟨Q, 3, none⟩ = some (.slice ia im ic) := by rw [hQ1.cell]; rfl
  have lq1 := hQ1.lt
  have lie1 : Lies (.slice ia im ic) (.slice (some ⟨g, 0, none⟩) (im + 1) c) w := by
    rcases hlie with h | h
    · exact .inl h.symm
    · exact .inr ⟨g, rfl, by omega⟩
  have H1 := Lib.hid hQ1
  have H2 := Lib.hid hR1
  have H3 := Lib.hid hG1
  have H4 := Lib.hid lie1
  have H5 := Lib.hid ho
  clear ho hgr hlie hQ1 hR1 hG1 lie1 OWN F1 F4 F5 F6 HKX v0 v1 v3 f1 f3 HQ0 HR0 HG0 HI0 HO0
  go_wp2_with fail
  refine (bId l1 _ _).mono ?_
  rintro e Y ⟨b, rfl, hA, hb, hw⟩
  obtain ⟨X, hX⟩ : ∃ X, X = w1.setCell ⟨Q, 3, none⟩ (.slice (some ⟨g, 0, none⟩) (im + 1) c) := ⟨_, rfl⟩
  rw [← hX] at hb hw
  have HRX := Lib.hid (show At X w.heap.size 44 #[.nilIface, .int .i32 0] from by rw [hX]; exact H2.out.far (by simp; omega) _)
  have hQX : QN X Q (some ⟨B, off, none⟩) n cap (p + 1) l1 (.slice (some ⟨g, 0, none⟩) (im + 1) c) := by
    have h := H1.out.set 3 (.slice (some ⟨g, 0, none⟩) (im + 1) c)
    rw [hX]
    simpa [QN] using h
  have hOX : X.ownsRow base 21 1 (.slice (some ⟨g, 0, none⟩) (im + 1) c) (im + 1) (ys ++ [.int .i32 l1]) := ownKeep H5.out (fun k hk => by
    simp only [Value.ownBlock, Option.some.injEq] at hk
    subst hk
    rw [hX]
    exact Below.heap_setCell w1 ⟨Q, 3, none⟩ _ g (by simpa using hng))
  have hGX : Gr2 Q (Value.slice ia im ic).ownBlock w X := by rw [hX]; exact H3.out.set 3 _
  have END := Lib.hid (show ∀ u0 u1, BDP base Q n cap (some ⟨B, off, none⟩) p (.slice ia im ic) im ys w (.returned (.agg #[.iface 165 (.pointer (some ⟨b, 0, none⟩)), .int .i32 l1])) ((Y.setCell ⟨w.heap.size, 0, none⟩ u0).setCell ⟨w.heap.size, 1, none⟩ u1) from fun u0 u1 =>
    endB (X := X) (p' := p + 1) (L := [(b, l1)]) (S' := fun _ => False) (ia := some ⟨g, 0, none⟩) (ic := c) lQ hGX HRX.out hQX hw (fun q hq => hq.elim) (fiId Y b l1) hOX (fun _ _ h => h) H4.out (by omega) (by omega) (by simp) u0 u1)
  clear hX hQX hOX hGX H1 H2 H3 H4 H5 hb
  have HRY := HRX.out.below hw (by have := HRX.out.lt; omega)
  have r0 : Y.cell? ⟨w.heap.size, 0, none⟩ = some .nilIface := by rw [HRY.cell]; rfl
  have r1 : Y.cell? ⟨w.heap.size, 1, none⟩ = some (.int .i32 0) := by rw [HRY.cell]; rfl
  have g0 := HRY.frozen 0
  have g1 := HRY.frozen 1
  have lr := HRY.lt
  clear HRY hA hw HRX
  go_wp2_with fail
  exact bodyPost_ret (v := .agg #[.iface 165 (.pointer (some ⟨b, 0, none⟩)), .int .i32 l1]) (by simp [results, Try.results19, go_sem, *]) rfl (END.out _ _)

set_option maxRecDepth 100000 in
set_option maxHeartbeats 8000000 in
theorem bd1 (base n cap B off Q : Nat) (zs : List Int) (hn : n ≤ 4096) (hz : ∀ i, 0 ≤ zs.getD i 0 ∧ zs.getD i 0 ≤ 255) (hbQ : base ≤ Q) (hBb : B < base) (m : Nat) (ih : ∀ (p : Nat) (l : Int) (w : World) (ia : Option Addr) (ic im : Nat) (ys : List Value), n - p ≤ m → p < n → QN w Q (some ⟨B, off, none⟩) n cap p l (.slice ia im ic) → w.ownsRow base 21 1 (.slice ia im ic) im ys → Ops base w (some ⟨B, off, none⟩) n zs → im + (n - p) ≤ 8192 → Calls Try.prog 19 #[.pointer (some ⟨Q, 0, none⟩)] w (BDP base Q n cap (some ⟨B, off, none⟩) p (.slice ia im ic) im ys w)) (p : Nat) (l : Int) (w : World) (ia : Option Addr) (ic im : Nat) (ys : List Value) (hm : n - p ≤ m + 1) (hpn : p < n) (hQN : QN w Q (some ⟨B, off, none⟩) n cap p l (.slice ia im ic)) (hid : w.ownsRow base 21 1 (.slice ia im ic) im ys) (hO : Ops base w (some ⟨B, off, none⟩) n zs) (hS : im + (n - p) ≤ 8192) (z : Int) (c0 : w.cell? ⟨B, off + p, none⟩ = some (.int .u8 z)) (z0 : 0 ≤ z) (z1 : z ≤ 255) (hk : z % 3 = 1) :
    Calls Try.prog 19 #[.pointer (some ⟨Q, 0, none⟩)] w (BDP base Q n cap (some ⟨B, off, none⟩) p (.slice ia im ic) im ys w) := by
  have HZ := Lib.hid hz
  have HO := Lib.hid hO
  have HQN := Lib.hid hQN
  have HID := Lib.hid hid
  have lB : B < w.heap.size := World.block_lt_of_cell? _ _ c0
  have lQ := hQN.lt
  have nQB : ¬ Q = B := by omega
  have nBQ : ¬ B = Q := by omega
  have nid : (Value.slice ia im ic).ownBlock ≠ some Q := atNe hid hQN (by decide)
  have HID0 := Lib.hid (show ∀ k, (Value.slice ia im ic).ownBlock = some k → base ≤ k ∧ k < w.heap.size from World.ownsRow.lt hid)
  have v0 : w.cell? ⟨Q, 0, none⟩ = some (.slice (some ⟨B, off, none⟩) n cap) := by rw [hQN.cell]; rfl
  have v1 : w.cell? ⟨Q, 1, none⟩ = some (.int .i64 p) := by rw [hQN.cell]; rfl
  have v2 : w.cell? ⟨Q, 2, none⟩ = some (.int .i32 l) := by rw [hQN.cell]; rfl
  have v3 : w.cell? ⟨Q, 3, none⟩ = some (.slice ia im ic) := by rw [hQN.cell]; rfl
  have f0 := hQN.frozen 0
  have f1 := hQN.frozen 1
  have f2 := hQN.frozen 2
  have f3 := hQN.frozen 3
  have p0 : (0 : Int) ≤ (p : Int) := Int.natCast_nonneg _
  have p1 : (p : Int) < (n : Int) := by omega
  obtain ⟨N, hN⟩ : ∃ N : Nat, z / 3 % 4 = (N : Int) := ⟨(z / 3 % 4).toNat, by omega⟩
  have hN3 : N ≤ 3 := by omega
  have zdp : 0 ≤ z / 3 := by omega
  clear hz hO hQN hid
  go_enter Try.func19, Try.ntmps19
  go_wp2_with fail
  go_quiet (fail)
  obtain ⟨l1, hl1⟩ : ∃ x, x = wrap32 (l + 1) := ⟨_, rfl⟩
  rw [← hl1]
  obtain ⟨V0, hV⟩ : ∃ V, V = (((w.setCell ⟨Q, 2, none⟩ (.int .i32 l1)).alloc (.cells #[.nilIface, .int .i32 0] 44)).drewN nq) := ⟨_, rfl⟩
  have K0 : ∀ q, q < w.heap.size → q ≠ Q → V0.heap[q]? = w.heap[q]? := fun q hq h1 => by
    rw [hV]
    exact (Below.heap_alloc (w.setCell ⟨Q, 2, none⟩ (.int .i32 l1)) _ q (by simpa [World.setCell] using hq)).trans (Below.heap_setCell w ⟨Q, 2, none⟩ _ q (by simpa using h1))
  have HQ0 := Lib.hid (show QN V0 Q (some ⟨B, off, none⟩) n cap p l1 (.slice ia im ic) from by
    have h := ((HQN.out.set 2 (.int .i32 l1)).alloc (.cells #[.nilIface, .int .i32 0] 44)).drewN nq
    rw [hV]
    simpa [QN] using h)
  have HR0 := Lib.hid (show At V0 w.heap.size 44 #[.nilIface, .int .i32 0] from by
    have h : At ((w.setCell ⟨Q, 2, none⟩ (.int .i32 l1)).alloc (.cells #[.nilIface, .int .i32 0] 44)) w.heap.size 44 #[.nilIface, .int .i32 0] := atNewB (by simp [World.setCell]) _ _
    rw [hV]
    exact h.drewN nq)
  have zz0 : w.heap.size + 1 ≤ V0.heap.size := by rw [hV]; simp [World.setCell]
  have zz1 : V0.heap.size ≤ w.heap.size + 1 := by rw [hV]; simp [World.setCell]
  have HG0 := Lib.hid (show Gr2 Q (Value.slice ia im ic).ownBlock w V0 from ⟨by rw [hV]; rfl, by rw [hV]; rfl, by rw [hV]; rfl, by omega, fun q hq h1 _ => K0 q hq h1⟩)
  have HI0 := Lib.hid (show V0.ownsRow base 21 1 (.slice ia im ic) im ys from ownKeep HID.out (fun q hq => K0 q (HID0.out q hq).2 (fun e => nid (e ▸ hq))))
  have HO0 := Lib.hid (show Ops base V0 (some ⟨B, off, none⟩) n zs from HO.out.keep (HG0.out.bel (by omega) hbQ (fun q hq => (HID0.out q hq).1)))
  rw [← hV]
  clear hl1 hV K0 c0 v0 v1 v2 v3 f0 f1 f2 f3 HQN HID
  have v0 : V0.cell? ⟨Q, 0, none⟩ = some (.slice (some ⟨B, off, none⟩) n cap) := by rw [HQ0.out.cell]; rfl
  have v1 : V0.cell? ⟨Q, 1, none⟩ = some (.int .i64 p) := by rw [HQ0.out.cell]; rfl
  have v3 : V0.cell? ⟨Q, 3, none⟩ = some (.slice ia im ic) := by rw [HQ0.out.cell]; rfl
  have f1 := HQ0.out.frozen 1
  have f3 := HQ0.out.frozen 3
  have lQ0 := HQ0.out.lt
  obtain ⟨iK, hi1, hy0, hy1, hy2⟩ := info_parts infoABs
  have IK := Lib.hid hi1
  have IK0 := Lib.hid hy0
  have IK1 := Lib.hid hy1
  have IK2 := Lib.hid hy2
  have hbm : iK.bytes * N ≤ 281474976710656 := by rw [hy2]; omega
  clear hi1 hy0 hy1 hy2
  go_wp2_with (with_reducible refine wpList_make_own _ (o := ⟨some 64, _, _, _, _, _⟩) rfl _ _ 55 rfl (w.heap.size + 1) 54 iK _ 5 Try.underlying55 IK.out IK0.out IK1.out .i64 .i64 _ N rfl rfl ?e1 ?e2 ?e3 ?e4 ?_)
  try (case e1 => first | exact hN | rfl | omega | (simp; omega))
  try (case e2 => exact hbm)
  try (case e3 => unfold maxLen; omega)
  try (case e4 => simp [World.setCell]; try omega)
  intro w1 hown hgr
  have hgs := hgr.size
  simp [World.setCell] at hgs
  have KX : ∀ (u : Value) q, q ≠ Q → (V0.setCell ⟨Q, 1, none⟩ u).heap[q]? = V0.heap[q]? := fun u q h1 => Below.heap_setCell V0 ⟨Q, 1, none⟩ _ q (by simpa using h1)
  have KY : ∀ q, q < V0.heap.size → q ≠ Q → w1.heap[q]? = V0.heap[q]? := fun q hq h1 => (hgr.block q (by simpa [World.setCell] using hq) (by simp)).trans (KX _ q h1)
  have hQ1 : QN w1 Q (some ⟨B, off, none⟩) n cap (p + 1) l1 (.slice ia im ic) := by
    have h := HQ0.out.set 1 (.int .i64 ((p : Int) + 1))
    have h2 := (hgr.block Q (by simp [World.setCell]; omega) (by simp)).trans h
    simpa [QN, At] using h2
  have ST := Lib.hid (show BR base Q n cap N w.heap.size 54 5 ItA (some ⟨B, off, none⟩) zs p im ys w (.slice ia im ic) (.slice (some ⟨V0.heap.size, 0, none⟩) 0 N) (.int .i64 0) w1 from
    ⟨0, p + 1, V0.heap.size, N, l1, [], fun _ => [], fun _ => False, ia, ic, Nat.zero_le _, rfl, rfl, by omega, by omega, by simp [cat], Lib.hid ⟨by simpa [cat] using hQ1, hown, ⟨rfl, fun q hq => absurd hq (by omega)⟩, fun q hq => hq.elim, fun h => h, by have h := ownKeep (w' := w1) HI0.out (fun q hq => KY q (ownLt HI0.out q hq) (fun e => nid (e ▸ hq))); simpa [cat, locs] using h, fun _ _ h => h, HG0.out.trans (r' := none) ⟨hgr.os, hgr.tape, hgr.output, hgs, fun q hq h1 _ => KY q hq h1⟩ (fun k hk => by cases hk), Lies.refl _ _, (KY _ (by omega) (by omega)).trans HR0.out, HO0.out.keep ⟨hgr.os, hgr.tape, hgr.output, hgs, fun q hq => KY q (by omega) (by omega)⟩⟩⟩)
  clear hown hgr KX KY hQ1 HQ0 HR0 HG0 HI0 HO0 v0 v1 v3 f1 f3 hN hk
  go_wp2_with fail
  go_loopw [6, 7] (fun s i wr => BR base Q n cap N w.heap.size 54 5 ItA (some ⟨B, off, none⟩) zs p im ys w (.slice ia im ic) s i wr) (fun _ i _ => N - (intOf i).toNat)
  case atStart => exact ST.out
  case round =>
    clear ST
    obtain ⟨j, p', g, c, l', xs, Ls, S, ia1, ic1, hj, rfl, rfl, hp1, hp2, hlen, H⟩ := hrel
    have u0 : wr.cell? ⟨Q, 0, none⟩ = some (.slice (some ⟨B, off, none⟩) n cap) := by rw [H.out.q.cell]; rfl
    have u1 : wr.cell? ⟨Q, 1, none⟩ = some (.int .i64 p') := by rw [H.out.q.cell]; rfl
    have lqr := H.out.q.lt
    have e0 : (0 : Int) ≤ (p' : Int) := Int.natCast_nonneg _
    by_cases hjn : j < N
    · have d1 : decide ((j : Int) < (N : Int)) = true := by simp; omega
      by_cases hpn2 : p' < n
      · have d2 : decide ((p' : Int) < (n : Int)) = true := by simp; omega
        have hpn2' : (p' : Int) < (n : Int) := by omega
        go_wp2_with fail
        go_quiet (fail)
        obtain ⟨wq, hwq⟩ : ∃ W, W = wr.drewN nq := ⟨_, rfl⟩
        have HX := Lib.hid (show BX base Q n cap w.heap.size 54 5 ItA (some ⟨B, off, none⟩) zs im ys w (.slice ia im ic) j p' g c l' xs Ls S ia1 ic1 wq from by rw [hwq]; exact ⟨H.out.q, H.out.own, H.out.it, H.out.s, H.out.ng, H.out.ids, H.out.dis, ⟨H.out.gr.os, H.out.gr.tape, H.out.gr.output, H.out.gr.size, H.out.gr.block⟩, H.out.lies, H.out.at_, H.out.ops⟩)
        rw [← hwq]
        clear hwq H u0 u1 lqr
        have zg := World.ownsRow.lt HX.out.own g rfl
        have zr := HX.out.gr.size
        go_wp2_with fail
        refine (ih p' l' wq ia1 ic1 _ _ (by omega) hpn2 HX.out.q HX.out.ids HX.out.ops (by omega)).mono ?_
        rintro e w2 ⟨d, l, p2, l2, S2, L2, ia2, ic2, rfl, ⟨ty, bq, rfl⟩, hfi, hS2, hp3, hp4, hL2, hQ2, hid2, hg2, hd2, hli2⟩
        have z2 := hg2.size
        have nqg : ∀ k, (Value.slice ia1 (im + (cat Ls j).length) ic1).ownBlock = some k → k ≠ g := fun k hk e => ownNe HX.out.own HX.out.ids (by decide) rfl (e ▸ hk)
        have OWN2 := Lib.hid (show w2.ownsRow (w.heap.size + 1) 54 5 (.slice (some ⟨g, 0, none⟩) j c) j xs from ownKeep HX.out.own (fun k hk => by simp only [Value.ownBlock, Option.some.injEq] at hk; subst hk; exact hg2.block _ zg.2 (by omega) (fun e => nqg _ e rfl)))
        have STEP := Lib.hid (show ∀ (dv : Value) (ex1 ex2 : Int) (hdv : IsN dv) (V w3 : World) (g' c' : Nat), Below w2.heap.size w2 V → w3.ownsRow (w.heap.size + 1) 54 5 (.slice (some ⟨g', 0, none⟩) (j + 1) c') (j + 1) (xs ++ [.iface ty (.pointer (some ⟨bq, 0, none⟩)), .int .i32 l, dv, .int .i32 ex1, .int .i32 ex2]) → V.grownBy w3 (some g) → (some g = some g' ∨ g' = V.heap.size) → BR base Q n cap N w.heap.size 54 5 ItA (some ⟨B, off, none⟩) zs p im ys w (.slice ia im ic) (.slice (some ⟨g', 0, none⟩) (j + 1) c') (.int .i64 ((j + 1 : Nat) : Int)) w3 from fun dv ex1 ex2 hdv V w3 g' c' hV ho3 hg3 hlie => stepBA (V := V) (w3 := w3) (g' := g') (c' := c') hdv rfl (by omega) lQ hbQ (fun k hk => (HID0.out k hk).1) hjn hp1 hp3 hp4 hlen HX.out hfi hS2 hL2 hQ2 hid2 hg2 hd2 hli2 hV ho3 hg3 hlie)
        have B1 : j + 1 ≤ maxLen := by unfold maxLen; omega
        have B2 : (j + 1) * 56 ≤ 140737488355328 := by omega
        clear hfi hS2 hL2 hQ2 hid2 hg2 hd2 hli2 HX nqg hlen
        by_cases hodd : j % 2 = 1
        · have o1 : ((j : Int) % 2 == 1) = true := by simp; omega
          have o2 : (j : Int) % 2 = 1 := by omega
          go_wp2_with fail
          obtain ⟨W, hW⟩ : ∃ W, W = w2.alloc (.cells #[.iface ty (.pointer (some ⟨bq, 0, none⟩)), .int .i32 l] 44) := ⟨_, rfl⟩
          rw [← hW]
          have OWN := Lib.hid (show W.ownsRow (w.heap.size + 1) 54 5 (.slice (some ⟨g, 0, none⟩) j c) j xs from by rw [hW]; exact OWN2.out.alloc _)
          have x0 : W.cell? ⟨w2.heap.size, 0, none⟩ = some (.iface ty (.pointer (some ⟨bq, 0, none⟩))) := by rw [hW, (At.new w2 44 #[.iface ty (.pointer (some ⟨bq, 0, none⟩)), .int .i32 l]).cell]; rfl
          have x1 : W.cell? ⟨w2.heap.size, 1, none⟩ = some (.int .i32 l) := by rw [hW, (At.new w2 44 #[.iface ty (.pointer (some ⟨bq, 0, none⟩)), .int .i32 l]).cell]; rfl
          have zW : w2.heap.size + 1 ≤ W.heap.size := by rw [hW]; simp
          have HBW := Lib.hid (show Below w2.heap.size w2 W from by rw [hW]; exact (Below.refl _ _).alloc (Nat.le_refl _) _)
          clear hW OWN2
          go_region_held3 (fun w' => w'.cell? ⟨w2.heap.size, 0, none⟩ = some (.iface ty (.pointer (some ⟨bq, 0, none⟩))) ∧ w'.cell? ⟨w2.heap.size, 1, none⟩ = some (.int .i32 l)) (repeat' (first | (refine And.intro ?_ ?_) | with_reducible assumption | apply kAlloc | apply kDrew)) (first
            | (go_at_call 20; (with_reducible refine Calls.mono (bNum l1 _) ?_); rintro e Y ⟨bn, rfl, hAn, hbn, hwn⟩; have s0 := kept hwn x0; have s1 := kept hwn x1; have OY : Y.ownsRow (w.heap.size + 1) 54 5 (.slice (some ⟨g, 0, none⟩) j c) j xs := (ownKeep OWN.out (fun k hk => hwn.block k (ownLt OWN.out k hk))); have zY := hwn.size; simp at zY)
            | (refine step_append_lies _ (by rfl) _ _ _ (by rfl) (w.heap.size + 1) 54 iK _ 5 56 Try.underlying55 IK.out IK0.out IK1.out IK2.out rfl (by omega) (.slice (some ⟨g, 0, none⟩) j c) j xs (by rfl) (OY.alloc _) ⟨Y.heap.size, 0, none⟩ 1 1 [.iface ty (.pointer (some ⟨bq, 0, none⟩)), .int .i32 l, .iface 169 (.pointer (some ⟨bn, 0, none⟩)), .int .i32 l1, .int .i32 0] (by rfl) (by rfl) (World.news_of_block (cs := #[.iface ty (.pointer (some ⟨bq, 0, none⟩)), .int .i32 l, .iface 169 (.pointer (some ⟨bn, 0, none⟩)), .int .i32 l1, .int .i32 0]) (t := 54) (fr := (0, 0)) (heap_alloc_new Y _)) (by simp [Value.oneCell']) (by omega) B1 B2 (by simp; omega) (Y.heap.size + 1) (by simp) ?_; intro g' c' w3 ho3 hg3 hlie hlt3; have y0 := hg3.cell (kAlloc s0) (by simp [Value.ownBlock]; omega); have y1 := hg3.cell (kAlloc s1) (by simp [Value.ownBlock]; omega)))
          all_goals
            have DA1 := Lib.hid (STEP.out _ l1 0 (.inr ⟨_, _, rfl⟩) (Y.alloc _) w3 g' c' ((HBW.out.drew.trans (hwn.mono (by simp; omega))).alloc (by omega) _) ho3 hg3 (by simpa [Value.ownBlock] using hlie))
            clear ho3 hg3 hlie STEP OWN OY hwn y0 y1 s0 s1 x0 x1 hAn
            go_wp2_with fail
            go_roundw
            case measure => simp [intOf]; omega
            case rel => exact DA1.out
        · have o1 : ((j : Int) % 2 == 1) = false := by simp; omega
          have o2 : ¬ ((j : Int) % 2 = 1) := by omega
          have OWN := Lib.hid (show ∀ o o', ((w2.alloc o).alloc o').ownsRow (w.heap.size + 1) 54 5 (.slice (some ⟨g, 0, none⟩) j c) j xs from fun o o' => (OWN2.out.alloc o).alloc o')
          have NEW := Lib.hid (show ∀ o, ∀ q u, ([.iface ty (.pointer (some ⟨bq, 0, none⟩)), .int .i32 l, .nilIface, .int .i32 0, .int .i32 0] : List Value)[q]? = some u → ((w2.alloc o).alloc (.cells #[.iface ty (.pointer (some ⟨bq, 0, none⟩)), .int .i32 l, .nilIface, .int .i32 0, .int .i32 0] 54)).cell? ((⟨w2.heap.size + 1, 0, none⟩ : Addr).add q) = some u from fun o => by
            have hh := heap_alloc_new (w2.alloc o) (.cells #[.iface ty (.pointer (some ⟨bq, 0, none⟩)), .int .i32 l, .nilIface, .int .i32 0, .int .i32 0] 54)
            rw [show (w2.alloc o).heap.size = w2.heap.size + 1 from by simp] at hh
            exact World.news_of_block (cs := #[.iface ty (.pointer (some ⟨bq, 0, none⟩)), .int .i32 l, .nilIface, .int .i32 0, .int .i32 0]) (t := 54) (fr := (0, 0)) hh)
          have ONE := Lib.hid (show ∀ u ∈ ([.iface ty (.pointer (some ⟨bq, 0, none⟩)), .int .i32 l, .nilIface, .int .i32 0, .int .i32 0] : List Value), u.oneCell' = true from by simp [Value.oneCell'])
          have B3 := Lib.hid (show ∀ o o', w.heap.size + 1 ≤ ((w2.alloc o).alloc o').heap.size from fun o o' => by simp; omega)
          have B4 := Lib.hid (show ∀ o o', ((w2.alloc o).alloc o').heap.size = w2.heap.size + 1 + 1 from fun o o' => by simp)
          go_wp2_with (with_reducible refine wpList_append_lies _ (o := ⟨some 98, _, _, _, _, _⟩) rfl _ _ 55 rfl (w.heap.size + 1) 54 iK _ 5 56 Try.underlying55 IK.out IK0.out IK1.out IK2.out rfl (by omega) (.slice (some ⟨g, 0, none⟩) j c) j xs rfl (OWN.out _ _) ⟨w2.heap.size + 1, 0, none⟩ 1 1 [.iface ty (.pointer (some ⟨bq, 0, none⟩)), .int .i32 l, .nilIface, .int .i32 0, .int .i32 0] rfl rfl (NEW.out _) ONE.out (by omega) B1 B2 (B3.out _ _) (w2.heap.size + 1 + 1) (B4.out _ _) ?_)
          intro g' c' w3 ho3 hg3 hlie hlt3
          have DA1 := Lib.hid (STEP.out .nilIface 0 0 (.inl rfl) ((w2.alloc _).alloc _) w3 g' c' (((Below.refl _ _).alloc (Nat.le_refl _) _).alloc (by simp) _) ho3 hg3 (by simpa [Value.ownBlock] using hlie))
          clear ho3 hg3 hlie STEP OWN NEW OWN2
          go_wp2_with fail
          go_roundw
          case measure => simp [intOf]; omega
          case rel => exact DA1.out
      · have d2 : decide ((p' : Int) < (n : Int)) = false := by simp; omega
        have hpn2' : ¬ ((p' : Int) < (n : Int)) := by omega
        go_wp2_with fail
        go_quiet (fail)
        obtain ⟨wq, hwq⟩ : ∃ W, W = wr.drewN nq := ⟨_, rfl⟩
        have HX := Lib.hid (show BX base Q n cap w.heap.size 54 5 ItA (some ⟨B, off, none⟩) zs im ys w (.slice ia im ic) j p' g c l' xs Ls S ia1 ic1 wq from by rw [hwq]; exact ⟨H.out.q, H.out.own, H.out.it, H.out.s, H.out.ng, H.out.ids, H.out.dis, ⟨H.out.gr.os, H.out.gr.tape, H.out.gr.output, H.out.gr.size, H.out.gr.block⟩, H.out.lies, H.out.at_, H.out.ops⟩)
        rw [← hwq]
        clear hwq H u0 u1 lqr
        have HRX := Lib.hid HX.out.at_
        go_wp2_with fail
        refine (bArr l1 (some ⟨g, 0, none⟩) j c wq).mono ?_
        rintro e Y ⟨b, rfl, hA, hb, hw⟩
        have END := Lib.hid (show ∀ u0 u1, BDP base Q n cap (some ⟨B, off, none⟩) p (.slice ia im ic) im ys w (.returned (.agg #[.iface 48 (.pointer (some ⟨b, 0, none⟩)), .int .i32 l1])) ((Y.setCell ⟨w.heap.size, 0, none⟩ u0).setCell ⟨w.heap.size, 1, none⟩ u1) from fun u0 u1 => endKA rfl lQ (by omega) hp1 hp2 hlen HX.out hA hb hw u0 u1)
        clear HX hb
        have HRY := HRX.out.below hw (by have := HRX.out.lt; omega)
        have r0 : Y.cell? ⟨w.heap.size, 0, none⟩ = some .nilIface := by rw [HRY.cell]; rfl
        have r1 : Y.cell? ⟨w.heap.size, 1, none⟩ = some (.int .i32 0) := by rw [HRY.cell]; rfl
        have g0 := HRY.frozen 0
        have g1 := HRY.frozen 1
        have lr := HRY.lt
        clear HRY hA hw HRX
        go_wp2_with fail
        exact bodyPost_ret (v := .agg #[.iface 48 (.pointer (some ⟨b, 0, none⟩)), .int .i32 l1]) (by simp [results, Try.results19, go_sem, *]) rfl (END.out _ _)
    · have d1 : decide ((j : Int) < (N : Int)) = false := by simp; omega
      have hjn' : ¬ ((j : Int) < (N : Int)) := by omega
      go_wp2_with fail
      go_quiet (fail)
      obtain ⟨wq, hwq⟩ : ∃ W, W = wr.drewN nq := ⟨_, rfl⟩
      have HX := Lib.hid (show BX base Q n cap w.heap.size 54 5 ItA (some ⟨B, off, none⟩) zs im ys w (.slice ia im ic) j p' g c l' xs Ls S ia1 ic1 wq from by rw [hwq]; exact ⟨H.out.q, H.out.own, H.out.it, H.out.s, H.out.ng, H.out.ids, H.out.dis, ⟨H.out.gr.os, H.out.gr.tape, H.out.gr.output, H.out.gr.size, H.out.gr.block⟩, H.out.lies, H.out.at_, H.out.ops⟩)
      rw [← hwq]
      clear hwq H u0 u1 lqr
      have HRX := Lib.hid HX.out.at_
      go_wp2_with fail
      refine (bArr l1 (some ⟨g, 0, none⟩) j c wq).mono ?_
      rintro e Y ⟨b, rfl, hA, hb, hw⟩
      have END := Lib.hid (show ∀ u0 u1, BDP base Q n cap (some ⟨B, off, none⟩) p (.slice ia im ic) im ys w (.returned (.agg #[.iface 48 (.pointer (some ⟨b, 0, none⟩)), .int .i32 l1])) ((Y.setCell ⟨w.heap.size, 0, none⟩ u0).setCell ⟨w.heap.size, 1, none⟩ u1) from fun u0 u1 => endKA rfl lQ (by omega) hp1 hp2 hlen HX.out hA hb hw u0 u1)
      clear HX hb
      have HRY := HRX.out.below hw (by have := HRX.out.lt; omega)
      have r0 : Y.cell? ⟨w.heap.size, 0, none⟩ = some .nilIface := by rw [HRY.cell]; rfl
      have r1 : Y.cell? ⟨w.heap.size, 1, none⟩ = some (.int .i32 0) := by rw [HRY.cell]; rfl
      have g0 := HRY.frozen 0
      have g1 := HRY.frozen 1
      have lr := HRY.lt
      clear HRY hA hw HRX
      go_wp2_with fail
      exact bodyPost_ret (v := .agg #[.iface 48 (.pointer (some ⟨b, 0, none⟩)), .int .i32 l1]) (by simp [results, Try.results19, go_sem, *]) rfl (END.out _ _)

set_option maxRecDepth 100000 in
set_option maxHeartbeats 8000000 in
theorem bd2 (base n cap B off Q : Nat) (zs : List Int) (hn : n ≤ 4096) (hz : ∀ i, 0 ≤ zs.getD i 0 ∧ zs.getD i 0 ≤ 255) (hbQ : base ≤ Q) (hBb : B < base) (m : Nat) (ih : ∀ (p : Nat) (l : Int) (w : World) (ia : Option Addr) (ic im : Nat) (ys : List Value), n - p ≤ m → p < n → QN w Q (some ⟨B, off, none⟩) n cap p l (.slice ia im ic) → w.ownsRow base 21 1 (.slice ia im ic) im ys → Ops base w (some ⟨B, off, none⟩) n zs → im + (n - p) ≤ 8192 → Calls Try.prog 19 #[.pointer (some ⟨Q, 0, none⟩)] w (BDP base Q n cap (some ⟨B, off, none⟩) p (.slice ia im ic) im ys w)) (p : Nat) (l : Int) (w : World) (ia : Option Addr) (ic im : Nat) (ys : List Value) (hm : n - p ≤ m + 1) (hpn : p < n) (hQN : QN w Q (some ⟨B, off, none⟩) n cap p l (.slice ia im ic)) (hid : w.ownsRow base 21 1 (.slice ia im ic) im ys) (hO : Ops base w (some ⟨B, off, none⟩) n zs) (hS : im + (n - p) ≤ 8192) (z : Int) (c0 : w.cell? ⟨B, off + p, none⟩ = some (.int .u8 z)) (z0 : 0 ≤ z) (z1 : z ≤ 255) (hk : z % 3 = 2) :
    Calls Try.prog 19 #[.pointer (some ⟨Q, 0, none⟩)] w (BDP base Q n cap (some ⟨B, off, none⟩) p (.slice ia im ic) im ys w) := by
  have HZ := Lib.hid hz
  have HO := Lib.hid hO
  have HQN := Lib.hid hQN
  have HID := Lib.hid hid
  have lB : B < w.heap.size := World.block_lt_of_cell? _ _ c0
  have lQ := hQN.lt
  have nQB : ¬ Q = B := by omega
  have nBQ : ¬ B = Q := by omega
  have nid : (Value.slice ia im ic).ownBlock ≠ some Q := atNe hid hQN (by decide)
  have HID0 := Lib.hid (show ∀ k, (Value.slice ia im ic).ownBlock = some k → base ≤ k ∧ k < w.heap.size from World.ownsRow.lt hid)
  have v0 : w.cell? ⟨Q, 0, none⟩ = some (.slice (some ⟨B, off, none⟩) n cap) := by rw [hQN.cell]; rfl
  have v1 : w.cell? ⟨Q, 1, none⟩ = some (.int .i64 p) := by rw [hQN.cell]; rfl
  have v2 : w.cell? ⟨Q, 2, none⟩ = some (.int .i32 l) := by rw [hQN.cell]; rfl
  have v3 : w.cell? ⟨Q, 3, none⟩ = some (.slice ia im ic) := by rw [hQN.cell]; rfl
  have f0 := hQN.frozen 0
  have f1 := hQN.frozen 1
  have f2 := hQN.frozen 2
  have f3 := hQN.frozen 3
  have p0 : (0 : Int) ≤ (p : Int) := Int.natCast_nonneg _
  have p1 : (p : Int) < (n : Int) := by omega
  obtain ⟨N, hN⟩ : ∃ N : Nat, z / 3 % 4 = (N : Int) := ⟨(z / 3 % 4).toNat, by omega⟩
  have hN3 : N ≤ 3 := by omega
  have zdp : 0 ≤ z / 3 := by omega
  clear hz hO hQN hid
  go_enter Try.func19, Try.ntmps19
  go_wp2_with fail
  go_quiet (fail)
  obtain ⟨l1, hl1⟩ : ∃ x, x = wrap32 (l + 1) := ⟨_, rfl⟩
  rw [← hl1]
  obtain ⟨V0, hV⟩ : ∃ V, V = (((w.setCell ⟨Q, 2, none⟩ (.int .i32 l1)).alloc (.cells #[.nilIface, .int .i32 0] 44)).drewN nq) := ⟨_, rfl⟩
  have K0 : ∀ q, q < w.heap.size → q ≠ Q → V0.heap[q]? = w.heap[q]? := fun q hq h1 => by
    rw [hV]
    exact (Below.heap_alloc (w.setCell ⟨Q, 2, none⟩ (.int .i32 l1)) _ q (by simpa [World.setCell] using hq)).trans (Below.heap_setCell w ⟨Q, 2, none⟩ _ q (by simpa using h1))
  have HQ0 := Lib.hid (show QN V0 Q (some ⟨B, off, none⟩) n cap p l1 (.slice ia im ic) from by
    have h := ((HQN.out.set 2 (.int .i32 l1)).alloc (.cells #[.nilIface, .int .i32 0] 44)).drewN nq
    rw [hV]
    simpa [QN] using h)
  have HR0 := Lib.hid (show At V0 w.heap.size 44 #[.nilIface, .int .i32 0] from by
    have h : At ((w.setCell ⟨Q, 2, none⟩ (.int .i32 l1)).alloc (.cells #[.nilIface, .int .i32 0] 44)) w.heap.size 44 #[.nilIface, .int .i32 0] := atNewB (by simp [World.setCell]) _ _
    rw [hV]
    exact h.drewN nq)
  have zz0 : w.heap.size + 1 ≤ V0.heap.size := by rw [hV]; simp [World.setCell]
  have zz1 : V0.heap.size ≤ w.heap.size + 1 := by rw [hV]; simp [World.setCell]
  have HG0 := Lib.hid (show Gr2 Q (Value.slice ia im ic).ownBlock w V0 from ⟨by rw [hV]; rfl, by rw [hV]; rfl, by rw [hV]; rfl, by omega, fun q hq h1 _ => K0 q hq h1⟩)
  have HI0 := Lib.hid (show V0.ownsRow base 21 1 (.slice ia im ic) im ys from ownKeep HID.out (fun q hq => K0 q (HID0.out q hq).2 (fun e => nid (e ▸ hq))))
  have HO0 := Lib.hid (show Ops base V0 (some ⟨B, off, none⟩) n zs from HO.out.keep (HG0.out.bel (by omega) hbQ (fun q hq => (HID0.out q hq).1)))
  rw [← hV]
  clear hl1 hV K0 c0 v0 v1 v2 v3 f0 f1 f2 f3 HQN HID
  have v0 : V0.cell? ⟨Q, 0, none⟩ = some (.slice (some ⟨B, off, none⟩) n cap) := by rw [HQ0.out.cell]; rfl
  have v1 : V0.cell? ⟨Q, 1, none⟩ = some (.int .i64 p) := by rw [HQ0.out.cell]; rfl
  have v3 : V0.cell? ⟨Q, 3, none⟩ = some (.slice ia im ic) := by rw [HQ0.out.cell]; rfl
  have f1 := HQ0.out.frozen 1
  have f3 := HQ0.out.frozen 3
  have lQ0 := HQ0.out.lt
  obtain ⟨iK, hi1, hy0, hy1, hy2⟩ := info_parts infoPBs
  have IK := Lib.hid hi1
  have IK0 := Lib.hid hy0
  have IK1 := Lib.hid hy1
  have IK2 := Lib.hid hy2
  have hbm : iK.bytes * N ≤ 281474976710656 := by rw [hy2]; omega
  clear hi1 hy0 hy1 hy2
  go_wp2_with (with_reducible refine wpList_make_own _ (o := ⟨some 103, _, _, _, _, _⟩) rfl _ _ 61 rfl (w.heap.size + 1) 60 iK _ 11 Try.underlying61 IK.out IK0.out IK1.out .i64 .i64 _ N rfl rfl ?e1 ?e2 ?e3 ?e4 ?_)
  try (case e1 => first | exact hN | rfl | omega | (simp; omega))
  try (case e2 => exact hbm)
  try (case e3 => unfold maxLen; omega)
  try (case e4 => simp [World.setCell]; try omega)
  intro w1 hown hgr
  have hgs := hgr.size
  simp [World.setCell] at hgs
  have KX : ∀ (u : Value) q, q ≠ Q → (V0.setCell ⟨Q, 1, none⟩ u).heap[q]? = V0.heap[q]? := fun u q h1 => Below.heap_setCell V0 ⟨Q, 1, none⟩ _ q (by simpa using h1)
  have KY : ∀ q, q < V0.heap.size → q ≠ Q → w1.heap[q]? = V0.heap[q]? := fun q hq h1 => (hgr.block q (by simpa [World.setCell] using hq) (by simp)).trans (KX _ q h1)
  have hQ1 : QN w1 Q (some ⟨B, off, none⟩) n cap (p + 1) l1 (.slice ia im ic) := by
    have h := HQ0.out.set 1 (.int .i64 ((p : Int) + 1))
    have h2 := (hgr.block Q (by simp [World.setCell]; omega) (by simp)).trans h
    simpa [QN, At] using h2
  have ST := Lib.hid (show BR base Q n cap N w.heap.size 60 11 ItO (some ⟨B, off, none⟩) zs p im ys w (.slice ia im ic) (.slice (some ⟨V0.heap.size, 0, none⟩) 0 N) (.int .i64 0) w1 from
    ⟨0, p + 1, V0.heap.size, N, l1, [], fun _ => [], fun _ => False, ia, ic, Nat.zero_le _, rfl, rfl, by omega, by omega, by simp [cat], Lib.hid ⟨by simpa [cat] using hQ1, hown, ⟨rfl, fun q hq => absurd hq (by omega)⟩, fun q hq => hq.elim, fun h => h, by have h := ownKeep (w' := w1) HI0.out (fun q hq => KY q (ownLt HI0.out q hq) (fun e => nid (e ▸ hq))); simpa [cat, locs] using h, fun _ _ h => h, HG0.out.trans (r' := none) ⟨hgr.os, hgr.tape, hgr.output, hgs, fun q hq h1 _ => KY q hq h1⟩ (fun k hk => by cases hk), Lies.refl _ _, (KY _ (by omega) (by omega)).trans HR0.out, HO0.out.keep ⟨hgr.os, hgr.tape, hgr.output, hgs, fun q hq => KY q (by omega) (by omega)⟩⟩⟩)
  clear hown hgr KX KY hQ1 HQ0 HR0 HG0 HI0 HO0 v0 v1 v3 f1 f3 hN hk
  go_wp2_with fail
  go_loopw [9, 10] (fun s i wr => BR base Q n cap N w.heap.size 60 11 ItO (some ⟨B, off, none⟩) zs p im ys w (.slice ia im ic) s i wr) (fun _ i _ => N - (intOf i).toNat)
  case atStart => exact ST.out
  case round =>
    clear ST
    obtain ⟨j, p', g, c, l', xs, Ls, S, ia1, ic1, hj, rfl, rfl, hp1, hp2, hlen, H⟩ := hrel
    have u0 : wr.cell? ⟨Q, 0, none⟩ = some (.slice (some ⟨B, off, none⟩) n cap) := by rw [H.out.q.cell]; rfl
    have u1 : wr.cell? ⟨Q, 1, none⟩ = some (.int .i64 p') := by rw [H.out.q.cell]; rfl
    have lqr := H.out.q.lt
    have e0 : (0 : Int) ≤ (p' : Int) := Int.natCast_nonneg _
    by_cases hjn : j < N
    · have d1 : decide ((j : Int) < (N : Int)) = true := by simp; omega
      by_cases hpn2 : p' < n
      · have d2 : decide ((p' : Int) < (n : Int)) = true := by simp; omega
        have hpn2' : (p' : Int) < (n : Int) := by omega
        go_wp2_with fail
        go_quiet (fail)
        obtain ⟨wq, hwq⟩ : ∃ W, W = wr.drewN nq := ⟨_, rfl⟩
        have HX := Lib.hid (show BX base Q n cap w.heap.size 60 11 ItO (some ⟨B, off, none⟩) zs im ys w (.slice ia im ic) j p' g c l' xs Ls S ia1 ic1 wq from by rw [hwq]; exact ⟨H.out.q, H.out.own, H.out.it, H.out.s, H.out.ng, H.out.ids, H.out.dis, ⟨H.out.gr.os, H.out.gr.tape, H.out.gr.output, H.out.gr.size, H.out.gr.block⟩, H.out.lies, H.out.at_, H.out.ops⟩)
        rw [← hwq]
        clear hwq H u0 u1 lqr
        have zg := World.ownsRow.lt HX.out.own g rfl
        have zr := HX.out.gr.size
        go_wp2_with fail
        refine (ih p' l' wq ia1 ic1 _ _ (by omega) hpn2 HX.out.q HX.out.ids HX.out.ops (by omega)).mono ?_
        rintro e w2 ⟨d, l, p2, l2, S2, L2, ia2, ic2, rfl, ⟨ty, bq, rfl⟩, hfi, hS2, hp3, hp4, hL2, hQ2, hid2, hg2, hd2, hli2⟩
        have z2 := hg2.size
        have nqg : ∀ k, (Value.slice ia1 (im + (cat Ls j).length) ic1).ownBlock = some k → k ≠ g := fun k hk e => ownNe HX.out.own HX.out.ids (by decide) rfl (e ▸ hk)
        have OWN2 := Lib.hid (show w2.ownsRow (w.heap.size + 1) 60 11 (.slice (some ⟨g, 0, none⟩) j c) j xs from ownKeep HX.out.own (fun k hk => by simp only [Value.ownBlock, Option.some.injEq] at hk; subst hk; exact hg2.block _ zg.2 (by omega) (fun e => nqg _ e rfl)))
        have STEP := Lib.hid (show ∀ (V w3 : World) (g' c' : Nat), Below w2.heap.size w2 V → w3.ownsRow (w.heap.size + 1) 60 11 (.slice (some ⟨g', 0, none⟩) (j + 1) c') (j + 1) (xs ++ [.nilIface, .int .i32 0, .iface ty (.pointer (some ⟨bq, 0, none⟩)), .int .i32 l, .nilIface, .int .i32 0, .int .i32 0, .int .i32 0, .bool false, .bool false, .bool false]) → V.grownBy w3 (some g) → (some g = some g' ∨ g' = V.heap.size) → BR base Q n cap N w.heap.size 60 11 ItO (some ⟨B, off, none⟩) zs p im ys w (.slice ia im ic) (.slice (some ⟨g', 0, none⟩) (j + 1) c') (.int .i64 ((j + 1 : Nat) : Int)) w3 from fun V w3 g' c' hV ho3 hg3 hlie => stepBO (V := V) (w3 := w3) (g' := g') (c' := c') rfl (by omega) lQ hbQ (fun k hk => (HID0.out k hk).1) hjn hp1 hp3 hp4 hlen HX.out hfi hS2 hL2 hQ2 hid2 hg2 hd2 hli2 hV ho3 hg3 hlie)
        have B1 : j + 1 ≤ maxLen := by unfold maxLen; omega
        have B2 : (j + 1) * 88 ≤ 140737488355328 := by omega
        clear hfi hS2 hL2 hQ2 hid2 hg2 hd2 hli2 HX nqg hlen
        have OWN := Lib.hid (show ∀ o, (w2.alloc o).ownsRow (w.heap.size + 1) 60 11 (.slice (some ⟨g, 0, none⟩) j c) j xs from fun o => OWN2.out.alloc o)
        have NEW := Lib.hid (show ∀ q u, ([.nilIface, .int .i32 0, .iface ty (.pointer (some ⟨bq, 0, none⟩)), .int .i32 l, .nilIface, .int .i32 0, .int .i32 0, .int .i32 0, .bool false, .bool false, .bool false] : List Value)[q]? = some u → (w2.alloc (.cells #[.nilIface, .int .i32 0, .iface ty (.pointer (some ⟨bq, 0, none⟩)), .int .i32 l, .nilIface, .int .i32 0, .int .i32 0, .int .i32 0, .bool false, .bool false, .bool false] 60)).cell? ((⟨w2.heap.size, 0, none⟩ : Addr).add q) = some u from World.news_of_block (cs := #[.nilIface, .int .i32 0, .iface ty (.pointer (some ⟨bq, 0, none⟩)), .int .i32 l, .nilIface, .int .i32 0, .int .i32 0, .int .i32 0, .bool false, .bool false, .bool false]) (t := 60) (fr := (0, 0)) (heap_alloc_new w2 _))
        have ONE := Lib.hid (show ∀ u ∈ ([.nilIface, .int .i32 0, .iface ty (.pointer (some ⟨bq, 0, none⟩)), .int .i32 l, .nilIface, .int .i32 0, .int .i32 0, .int .i32 0, .bool false, .bool false, .bool false] : List Value), u.oneCell' = true from by simp [Value.oneCell'])
        have B3 := Lib.hid (show ∀ o, w.heap.size + 1 ≤ (w2.alloc o).heap.size from fun o => by simp; omega)
        have B4 := Lib.hid (show ∀ o, (w2.alloc o).heap.size = w2.heap.size + 1 from fun o => by simp)
        go_wp2_with (with_reducible refine wpList_append_lies _ (o := ⟨some 126, _, _, _, _, _⟩) rfl _ _ 61 rfl (w.heap.size + 1) 60 iK _ 11 88 Try.underlying61 IK.out IK0.out IK1.out IK2.out rfl (by omega) (.slice (some ⟨g, 0, none⟩) j c) j xs rfl (OWN.out _) ⟨w2.heap.size, 0, none⟩ 1 1 [.nilIface, .int .i32 0, .iface ty (.pointer (some ⟨bq, 0, none⟩)), .int .i32 l, .nilIface, .int .i32 0, .int .i32 0, .int .i32 0, .bool false, .bool false, .bool false] rfl rfl NEW.out ONE.out (by omega) B1 B2 (B3.out _) (w2.heap.size + 1) (B4.out _) ?_)
        intro g' c' w3 ho3 hg3 hlie hlt3
        have DA1 := Lib.hid (STEP.out (w2.alloc _) w3 g' c' ((Below.refl _ _).alloc (Nat.le_refl _) _) ho3 hg3 (by simpa [Value.ownBlock] using hlie))
        clear ho3 hg3 hlie STEP OWN NEW OWN2
        go_wp2_with fail
        go_roundw
        case measure => simp [intOf]; omega
        case rel => exact DA1.out
      · have d2 : decide ((p' : Int) < (n : Int)) = false := by simp; omega
        have hpn2' : ¬ ((p' : Int) < (n : Int)) := by omega
        go_wp2_with fail
        go_quiet (fail)
        obtain ⟨wq, hwq⟩ : ∃ W, W = wr.drewN nq := ⟨_, rfl⟩
        have HX := Lib.hid (show BX base Q n cap w.heap.size 60 11 ItO (some ⟨B, off, none⟩) zs im ys w (.slice ia im ic) j p' g c l' xs Ls S ia1 ic1 wq from by rw [hwq]; exact ⟨H.out.q, H.out.own, H.out.it, H.out.s, H.out.ng, H.out.ids, H.out.dis, ⟨H.out.gr.os, H.out.gr.tape, H.out.gr.output, H.out.gr.size, H.out.gr.block⟩, H.out.lies, H.out.at_, H.out.ops⟩)
        rw [← hwq]
        clear hwq H u0 u1 lqr
        have HRX := Lib.hid HX.out.at_
        go_wp2_with fail
        refine (bObj l1 (some ⟨g, 0, none⟩) j c wq).mono ?_
        rintro e Y ⟨b, rfl, hA, hb, hw⟩
        have END := Lib.hid (show ∀ u0 u1, BDP base Q n cap (some ⟨B, off, none⟩) p (.slice ia im ic) im ys w (.returned (.agg #[.iface 58 (.pointer (some ⟨b, 0, none⟩)), .int .i32 l1])) ((Y.setCell ⟨w.heap.size, 0, none⟩ u0).setCell ⟨w.heap.size, 1, none⟩ u1) from fun u0 u1 => endKO rfl lQ (by omega) hp1 hp2 hlen HX.out hA hb hw u0 u1)
        clear HX hb
        have HRY := HRX.out.below hw (by have := HRX.out.lt; omega)
        have r0 : Y.cell? ⟨w.heap.size, 0, none⟩ = some .nilIface := by rw [HRY.cell]; rfl
        have r1 : Y.cell? ⟨w.heap.size, 1, none⟩ = some (.int .i32 0) := by rw [HRY.cell]; rfl
        have g0 := HRY.frozen 0
        have g1 := HRY.frozen 1
        have lr := HRY.lt
        clear HRY hA hw HRX
        go_wp2_with fail
        exact bodyPost_ret (v := .agg #[.iface 58 (.pointer (some ⟨b, 0, none⟩)), .int .i32 l1]) (by simp [results, Try.results19, go_sem, *]) rfl (END.out _ _)
    · have d1 : decide ((j : Int) < (N : Int)) = false := by simp; omega
      have hjn' : ¬ ((j : Int) < (N : Int)) := by omega
      go_wp2_with fail
      go_quiet (fail)
      obtain ⟨wq, hwq⟩ : ∃ W, W = wr.drewN nq := ⟨_, rfl⟩
      have HX := Lib.hid (show BX base Q n cap w.heap.size 60 11 ItO (some ⟨B, off, none⟩) zs im ys w (.slice ia im ic) j p' g c l' xs Ls S ia1 ic1 wq from by rw [hwq]; exact ⟨H.out.q, H.out.own, H.out.it, H.out.s, H.out.ng, H.out.ids, H.out.dis, ⟨H.out.gr.os, H.out.gr.tape, H.out.gr.output, H.out.gr.size, H.out.gr.block⟩, H.out.lies, H.out.at_, H.out.ops⟩)
      rw [← hwq]
      clear hwq H u0 u1 lqr
      have HRX := Lib.hid HX.out.at_
      go_wp2_with fail
      refine (bObj l1 (some ⟨g, 0, none⟩) j c wq).mono ?_
      rintro e Y ⟨b, rfl, hA, hb, hw⟩
      have END := Lib.hid (show ∀ u0 u1, BDP base Q n cap (some ⟨B, off, none⟩) p (.slice ia im ic) im ys w (.returned (.agg #[.iface 58 (.pointer (some ⟨b, 0, none⟩)), .int .i32 l1])) ((Y.setCell ⟨w.heap.size, 0, none⟩ u0).setCell ⟨w.heap.size, 1, none⟩ u1) from fun u0 u1 => endKO rfl lQ (by omega) hp1 hp2 hlen HX.out hA hb hw u0 u1)
      clear HX hb
      have HRY := HRX.out.below hw (by have := HRX.out.lt; omega)
      have r0 : Y.cell? ⟨w.heap.size, 0, none⟩ = some .nilIface := by rw [HRY.cell]; rfl
      have r1 : Y.cell? ⟨w.heap.size, 1, none⟩ = some (.int .i32 0) := by rw [HRY.cell]; rfl
      have g0 := HRY.frozen 0
      have g1 := HRY.frozen 1
      have lr := HRY.lt
      clear HRY hA hw HRX
      go_wp2_with fail
      exact bodyPost_ret (v := .agg #[.iface 58 (.pointer (some ⟨b, 0, none⟩)), .int .i32 l1]) (by simp [results, Try.results19, go_sem, *]) rfl (END.out _ _)

theorem bd (base n cap Q : Nat) (a : Option Addr) (zs : List Int) (hn : n ≤ 4096) (hz : ∀ i, 0 ≤ zs.getD i 0 ∧ zs.getD i 0 ≤ 255) (hbQ : base ≤ Q) : ∀ (m p : Nat) (l : Int) (w : World) (ia : Option Addr) (ic im : Nat) (ys : List Value), n - p ≤ m → p < n → QN w Q a n cap p l (.slice ia im ic) → w.ownsRow base 21 1 (.slice ia im ic) im ys → Ops base w a n zs → im + (n - p) ≤ 8192 → Calls Try.prog 19 #[.pointer (some ⟨Q, 0, none⟩)] w (BDP base Q n cap a p (.slice ia im ic) im ys w) := by
  intro m
  induction m with
  | zero => intro p l w ia ic im ys hm hp; omega
  | succ m ih =>
    intro p l w ia ic im ys hm hpn hQN hid hO hS
    obtain ⟨B, off, rfl, hBg, hc⟩ := hO (by omega)
    have c0 := hc p hpn
    obtain ⟨z0, z1⟩ := hz p
    obtain ⟨z, hzz⟩ : ∃ z, z = zs.getD p 0 := ⟨_, rfl⟩
    rw [← hzz] at c0 z0 z1
    rcases (show z % 3 = 0 ∨ z % 3 = 1 ∨ z % 3 = 2 by omega) with hk | hk | hk
    · exact bd0 base n cap B off Q zs hn hz hbQ hBg m ih p l w ia ic im ys hm hpn hQN hid hO hS z c0 z0 z1 hk
    · exact bd1 base n cap B off Q zs hn hz hbQ hBg m ih p l w ia ic im ys hm hpn hQN hid hO hS z c0 z0 z1 hk
    · exact bd2 base n cap B off Q zs hn hz hbQ hBg m ih p l w ia ic im ys hm hpn hQN hid hO hS z c0 z0 z1 hk
end Go.Proofs.Ytppcfibhpgjnoaa
