/- Proved here: the contract of zzDecodeStmt. Conditions as stated. -/
import Derived.Test.YtppcfibhpgjnoaaSDA
import Derived.WalkKit
import Derived.WalkSpells
import Derived.WalkLawsBesides
import Derived.Lib.Hide
import Derived.Lib.SliceRun
import Derived.Deep.RegionWith
import Derived.OwnWalk
import Derived.Laws.OwnMore
import Derived.Deep.AppendLies
namespace Go.Proofs.Ytppcfibhpgjnoaa
open Go.RowKit
set_option linter.unusedSimpArgs false
set_option linter.unusedVariables false

theorem leafD {base n p p' kk : Nat} {w : World} {d : Value} {l : Int} (hd : IsD d) (h : ∀ W, SK base (fun _ => False) W d l (decide (0 < kk))) (hp : p ≤ p') (hp2 : p' ≤ n) (hp3 : p < n → p < p') (hkk : kk ≤ p' - p) (o1 o2 : Obj) :
    DSP base n p w (.returned (.tuple #[.agg #[d, .int .i32 l], .int .i64 p', .int .i64 kk])) ((w.alloc o1).alloc o2) :=
  ⟨d, l, p', kk, fun _ => False, rfl, hd, h _, fun q hq => hq.elim, hp, hp2, hp3, hkk, ((Below.refl _ _).alloc (Nat.le_refl _) _).alloc (by simp) _⟩
/-- The end of a case that has built its node: X is the world ahead of the last box, r the result's block. -/
theorem endN {base n p p' kk r : Nat} {k : Bool} {w X : World} {S : Nat → Prop} {T bT : Nat} {cs : Array Value} (hB : base ≤ w.heap.size) (hr : r = w.heap.size) (hX : Below w.heap.size w X) (hrx : r < X.heap.size) (hS : ∀ q, S q → w.heap.size + 1 ≤ q ∧ q < X.heap.size)
    (hSK : ∀ W, At W X.heap.size T cs → (∀ q, S q → W.heap[q]? = X.heap[q]?) → X.heap.size < W.heap.size → SK base (fun q => S q ∨ q = X.heap.size) W (.iface bT (.pointer (some ⟨X.heap.size, 0, none⟩))) 0 k) (hk : k = decide (0 < kk))
    (hp : p ≤ p') (hp2 : p' ≤ n) (hp3 : p < n → p < p') (hkk : kk ≤ p' - p) (u0 u1 : Value) :
    DSP base n p w (.returned (.tuple #[.agg #[.iface bT (.pointer (some ⟨X.heap.size, 0, none⟩)), .int .i32 0], .int .i64 p', .int .i64 kk])) (((X.setCell ⟨r, 0, none⟩ u0).setCell ⟨r, 1, none⟩ u1).alloc (.cells cs T)) := by
  subst hr hk
  have z1 := hX.size
  have hA : At (((X.setCell ⟨w.heap.size, 0, none⟩ u0).setCell ⟨w.heap.size, 1, none⟩ u1).alloc (.cells cs T)) X.heap.size T cs := by
    have h := heap_alloc_new ((X.setCell ⟨w.heap.size, 0, none⟩ u0).setCell ⟨w.heap.size, 1, none⟩ u1) (.cells cs T)
    unfold At
    simpa [World.setCell] using h
  refine ⟨_, 0, p', kk, fun q => S q ∨ q = X.heap.size, rfl, ⟨_, _, rfl⟩, hSK _ hA (fun q hq => ?_) (by simp [World.setCell]), ?_, hp, hp2, hp3, hkk, ((hX.setCell (Nat.le_refl _) _).setCell (Nat.le_refl _) _).alloc (by simp [World.setCell]; omega) _⟩
  · have h := hS q hq
    rw [Below.heap_alloc _ _ q (by simpa [World.setCell] using h.2), Below.heap_setCell _ _ _ q (by simp; omega), Below.heap_setCell _ _ _ q (by simp; omega)]
  · intro q hq
    rcases hq with hq | rfl
    · have := hS q hq; omega
    · omega

theorem setSize (w : World) (p : Addr) (v : Value) : (w.setCell p v).heap.size = w.heap.size := by simp [World.setCell]
theorem s2far {w : World} {y b : Nat} (h : b ≠ y) (u v : Value) : ((w.setCell ⟨y, 0, none⟩ u).setCell ⟨y, 1, none⟩ v).heap[b]? = w.heap[b]? := by rw [Below.heap_setCell _ _ _ b (by simpa using h), Below.heap_setCell _ _ _ b (by simpa using h)]
theorem s2at {w : World} {y : Nat} (h : At w y 33 #[.nilIface, .int .i32 0]) (u v : Value) : At ((w.setCell ⟨y, 0, none⟩ u).setCell ⟨y, 1, none⟩ v) y 33 #[u, v] := (h.set 0 u).set 1 v
theorem s2atF {w : World} {y b : Nat} {t : TypeId} {cs : Array Value} (hb : b ≠ y) (h : At w b t cs) (u v : Value) : At ((w.setCell ⟨y, 0, none⟩ u).setCell ⟨y, 1, none⟩ v) b t cs := (s2far hb u v).trans h
theorem s2below {w X : World} {y : Nat} (h : Below w.heap.size w X) (hy : w.heap.size ≤ y) (u v : Value) : Below w.heap.size w ((X.setCell ⟨y, 0, none⟩ u).setCell ⟨y, 1, none⟩ v) := (h.setCell hy _).setCell hy _
set_option maxRecDepth 100000 in
theorem and1' : ∀ x : Fin 256, bits .and .u8 ((x.val : Nat) : Int) 1 = 0 ∨ bits .and .u8 ((x.val : Nat) : Int) 1 = 1 := by decide
theorem and1 (z : Int) (h0 : 0 ≤ z) (h1 : z ≤ 255) : bits .and .u8 z 1 = 0 ∨ bits .and .u8 z 1 = 1 := by
  have h := and1' ⟨z.toNat, by omega⟩
  have e : ((z.toNat : Nat) : Int) = z := by omega
  rw [← e]
  exact h
set_option maxRecDepth 100000 in
theorem and2' : ∀ x : Fin 256, bits .and .u8 ((x.val : Nat) : Int) 2 = 0 ∨ bits .and .u8 ((x.val : Nat) : Int) 2 = 2 := by decide
theorem and2 (z : Int) (h0 : 0 ≤ z) (h1 : z ≤ 255) : bits .and .u8 z 2 = 0 ∨ bits .and .u8 z 2 = 2 := by
  have h := and2' ⟨z.toNat, by omega⟩
  have e : ((z.toNat : Nat) : Int) = z := by omega
  rw [← e]
  exact h
set_option maxRecDepth 100000 in
theorem and3n' : ∀ x : Fin 256, ∃ N : Fin 4, bits .and .u8 ((x.val : Nat) : Int) 3 = ((N.val : Nat) : Int) := by decide
theorem and3n (z : Int) (h0 : 0 ≤ z) (h1 : z ≤ 255) : ∃ N : Nat, bits .and .u8 z 3 = (N : Int) ∧ N ≤ 3 := by
  obtain ⟨N, hN⟩ := and3n' ⟨z.toNat, by omega⟩
  have e : ((z.toNat : Nat) : Int) = z := by omega
  exact ⟨N.val, by rw [← hN]; show _ = bits .and .u8 ((z.toNat : Nat) : Int) 3; rw [e], by omega⟩
theorem add_dec (a b : Nat) : (decide (0 < a) || decide (0 < b)) = decide (0 < a + b) := by by_cases h1 : 0 < a <;> by_cases h2 : 0 < b <;> simp [h1, h2] <;> omega

theorem endT {base n p p' kk r s i : Nat} {k : Bool} {w w2 : World} {S : Nat → Prop} {T : Nat} {cs csN : Array Value} (u : Value) (hB : base ≤ w.heap.size) (hr : r = w.heap.size) (hX : Below w.heap.size w w2) (hrx : r < w2.heap.size) (hs : At w2 s 129 cs) (hsr : w.heap.size < s) (hS : ∀ q, S q → w.heap.size + 1 ≤ q ∧ q < w2.heap.size ∧ q ≠ s)
    (hSK : ∀ F, At F s 129 (cs.setIfInBounds i u) → At F w2.heap.size T csN → (∀ q, S q → F.heap[q]? = w2.heap[q]?) → w2.heap.size < F.heap.size → SK base (fun q => S q ∨ q = s ∨ q = w2.heap.size) F (.iface 125 (.pointer (some ⟨s, 0, none⟩))) 0 k) (hk : k = decide (0 < kk))
    (hp : p ≤ p') (hp2 : p' ≤ n) (hp3 : p < n → p < p') (hkk : kk ≤ p' - p) (u0 u1 : Value) :
    DSP base n p w (.returned (.tuple #[.agg #[.iface 125 (.pointer (some ⟨s, 0, none⟩)), .int .i32 0], .int .i64 p', .int .i64 kk])) ((((w2.setCell ⟨s, i, none⟩ u).setCell ⟨r, 0, none⟩ u0).setCell ⟨r, 1, none⟩ u1).alloc (.cells csN T)) := by
  subst hr hk
  have z1 := hX.size
  have ls := hs.lt
  have hA : At ((((w2.setCell ⟨s, i, none⟩ u).setCell ⟨w.heap.size, 0, none⟩ u0).setCell ⟨w.heap.size, 1, none⟩ u1).alloc (.cells csN T)) w2.heap.size T csN := by
    have h := heap_alloc_new (((w2.setCell ⟨s, i, none⟩ u).setCell ⟨w.heap.size, 0, none⟩ u0).setCell ⟨w.heap.size, 1, none⟩ u1) (.cells csN T)
    unfold At
    simpa [World.setCell] using h
  refine ⟨_, 0, p', kk, fun q => S q ∨ q = s ∨ q = w2.heap.size, rfl, ⟨_, _, rfl⟩, hSK _ ((s2atF (by omega) (hs.set i u) u0 u1).alloc _) hA (fun q hq => ?_) (by simp [World.setCell]), ?_, hp, hp2, hp3, hkk, (((hX.setCell (by simp; omega) _).setCell (Nat.le_refl _) _).setCell (Nat.le_refl _) _).alloc (by simp [World.setCell]; omega) _⟩
  · have h := hS q hq
    rw [Below.heap_alloc _ _ q (by simpa [World.setCell] using h.2.1), Below.heap_setCell _ _ _ q (by simp; omega), Below.heap_setCell _ _ _ q (by simp; omega), Below.heap_setCell _ _ _ q (by simp; omega)]
  · intro q hq
    rcases hq with hq | rfl | rfl
    · have := hS q hq; omega
    · omega
    · omega

def VR (base n p N : Nat) (W : World) (a : Option Addr) (zs : List Int) (p1 s ids i : Value) (wr : World) : Prop :=
  ∃ (j p' g c : Nat) (xs : List Value) (Ls : Nat → List (Nat × Int)) (S : Nat → Prop), j ≤ N ∧ i = .int .i64 j ∧ p1 = .int .i64 p' ∧ p' ≤ n ∧ p < p' ∧ s = .slice (some ⟨g, 0, none⟩) j c ∧ ids = .int .i64 ((cat Ls j).length : Nat) ∧ (cat Ls j).length ≤ p' - p ∧ Hid (wr.ownsRow (W.heap.size + 1) 67 4 (.slice (some ⟨g, 0, none⟩) j c) j xs) ∧ Hid (ItD S wr xs j Ls) ∧ Hid (∀ k, S k → W.heap.size + 1 ≤ k ∧ k < wr.heap.size) ∧ Hid (¬ S g) ∧ Hid (Below W.heap.size W wr) ∧ Hid (Ops base wr a n zs) ∧ Hid (At wr W.heap.size 33 #[.nilIface, .int .i32 0])
theorem stepV {base n p p2 N j p' g c g' c' : Nat} {w wr w2 w3 : World} {a : Option Addr} {zs : List Int} {xs : List Value} {Ls : Nat → List (Nat × Int)} {S S2 : Nat → Prop} {L2 : List (Nat × Int)} {ty bq : Nat} {l : Int}
    (hB : base ≤ w.heap.size) (hO : Ops base w a n zs) (hj : j < N) (hp : p < p') (hp3 : p' < p2) (hp4 : p2 ≤ n) (hlen : (cat Ls j).length ≤ p' - p)
    (HW : wr.ownsRow (w.heap.size + 1) 67 4 (.slice (some ⟨g, 0, none⟩) j c) j xs) (HT : ItD S wr xs j Ls) (HS : ∀ k, S k → w.heap.size + 1 ≤ k ∧ k < wr.heap.size) (HG : ¬ S g) (HB : Below w.heap.size w wr) (HA : At wr w.heap.size 33 #[.nilIface, .int .i32 0])
    (hfi : FI S2 w2 (.iface ty (.pointer (some ⟨bq, 0, none⟩))) l L2) (hS2 : ∀ k, S2 k → wr.heap.size + 1 ≤ k) (hL2 : L2.length ≤ p2 - p')
    (hg2 : Below (wr.heap.size + 1) (wr.alloc (.cells #[.nilIface, .int .i32 0] 44)) w2)
    (u0 u1 : Value) (o : Obj) (ho3 : w3.ownsRow (w.heap.size + 1) 67 4 (.slice (some ⟨g', 0, none⟩) (j + 1) c') (j + 1) (xs ++ [.iface ty (.pointer (some ⟨bq, 0, none⟩)), .int .i32 l, .nilIface, .int .i32 0])) (hg3 : (((w2.setCell ⟨wr.heap.size, 0, none⟩ u0).setCell ⟨wr.heap.size, 1, none⟩ u1).alloc o).grownBy w3 (some g)) (hlie : some g = some g' ∨ g' = w2.heap.size + 1) :
    VR base n p N w a zs (.int .i64 p2) (.slice (some ⟨g', 0, none⟩) (j + 1) c') (.int .i64 (((cat Ls j).length + L2.length : Nat) : Int)) (.int .i64 ((j + 1 : Nat) : Int)) w3 := by
  have zg := World.ownsRow.lt HW g rfl
  have z1 := HB.size
  have z2 : wr.heap.size + 1 ≤ w2.heap.size := by have := hg2.size; simpa using this
  have z3 : w2.heap.size + 1 ≤ w3.heap.size := by have := hg3.size; simpa [World.setCell] using this
  have K2 : ∀ k, k < wr.heap.size → w2.heap[k]? = wr.heap[k]? := fun k hk => (hg2.block k (by omega)).trans (Below.heap_alloc wr _ k hk)
  have K3 : ∀ k, k < w2.heap.size → k ≠ wr.heap.size → k ≠ g → w3.heap[k]? = w2.heap[k]? := fun k hk hn hg => by
    rw [hg3.block k (by simp [World.setCell]; omega) (by simpa using hg), Below.heap_alloc _ _ k (by simpa [World.setCell] using hk), Below.heap_setCell _ _ _ k (by simpa using hn), Below.heap_setCell _ _ _ k (by simpa using hn)]
  have S2lt := hfi.1
  have h0 := HA.lt
  have HBW : Below w.heap.size w w3 := by
    refine ⟨?_, ?_, ?_, by omega, fun k hk => (K3 k (by omega) (by omega) (by omega)).trans ((K2 k (by omega)).trans (HB.block k hk))⟩
    · rw [hg3.os]; exact hg2.os.trans HB.os
    · rw [hg3.tape]; exact hg2.tape.trans HB.tape
    · rw [hg3.output]; exact hg2.output.trans HB.output
  refine ⟨j + 1, p2, g', c', xs ++ [.iface ty (.pointer (some ⟨bq, 0, none⟩)), .int .i32 l, .nilIface, .int .i32 0], fun q => if q = j then L2 else Ls q, fun k => S k ∨ S2 k, by omega, rfl, rfl, hp4, by omega, rfl, by rw [cat_snoc, List.length_append], by rw [cat_snoc]; simp; omega, Lib.hid ho3, Lib.hid ?_, Lib.hid ?_, Lib.hid ?_, Lib.hid HBW, Lib.hid (hO.keep (HBW.mono hB)), Lib.hid ?_⟩
  · have bnd : ∀ k, (S k ∨ S2 k) → k < w3.heap.size := fun k hk => by
      rcases hk with hk | hk
      · have := HS k hk; omega
      · have := S2lt k hk; omega
    refine ItD.snoc ((HT.keep (by omega) (fun k hk => ?_)).more (fun _ h => .inl h) bnd) _ _ _ _ 0 _ ⟨_, _, rfl⟩ (.inl rfl) ((hfi.keep (by omega) (fun k hk => ?_)).more (fun _ h => .inr h) bnd)
    · have h := HS k hk
      exact (K3 k (by omega) (by omega) (fun e => HG (e ▸ hk))).trans (K2 k h.2)
    · have h := S2lt k hk
      have h' := hS2 k hk
      exact K3 k h (by omega) (by omega)
  · intro k hk
    rcases hk with hk | hk
    · have := HS k hk; omega
    · have := S2lt k hk; have := hS2 k hk; omega
  · intro hk
    rcases hlie with h | h
    · simp only [Option.some.injEq] at h
      subst h
      rcases hk with hk | hk
      · exact HG hk
      · have := hS2 _ hk; omega
    · subst h
      rcases hk with hk | hk
      · have := (HS _ hk).2; omega
      · have := S2lt _ hk; omega
  · exact (K3 _ (by omega) (by omega) (by omega)).trans ((K2 _ h0).trans HA)
theorem endV {base n p p' j g c kd kk : Nat} {k : Bool} {w wr : World} {xs : List Value} {Ls : Nat → List (Nat × Int)} {S : Nat → Prop} (hB : base ≤ w.heap.size) (hp1 : p' ≤ n) (hp2 : p < p') (hj : j ≤ 3) (hlen : (cat Ls j).length ≤ 4096) (hkd : kd ≤ 2) (hk : k = (decide (kd = 0) && !(cat Ls j).isEmpty)) (hk2 : k = decide (0 < kk)) (hkk : kk ≤ p' - p)
    (HW : wr.ownsRow (w.heap.size + 1) 67 4 (.slice (some ⟨g, 0, none⟩) j c) j xs) (HT : ItD S wr xs j Ls) (HS : ∀ k, S k → w.heap.size + 1 ≤ k ∧ k < wr.heap.size) (HG : ¬ S g) (HBW : Below w.heap.size w wr) (HA : At wr w.heap.size 33 #[.nilIface, .int .i32 0]) (u0 u1 : Value) :
    DSP base n p w (.returned (.tuple #[.agg #[.iface 75 (.pointer (some ⟨wr.heap.size, 0, none⟩)), .int .i32 0], .int .i64 p', .int .i64 kk])) (((wr.setCell ⟨w.heap.size, 0, none⟩ u0).setCell ⟨w.heap.size, 1, none⟩ u1).alloc (.cells #[.slice (some ⟨g, 0, none⟩) j c, .int .u8 (kd : Int), .bool false, .bool false] 77)) := by
  have zg := World.ownsRow.lt HW g rfl
  refine endN (k := k) (S := fun q => S q ∨ q = g) hB rfl HBW HA.lt (fun q hq => ?_) (fun W hA hkp hlt => ?_) hk2 (by omega) hp1 (fun _ => hp2) hkk u0 u1
  · rcases hq with hq | rfl
    · exact HS q hq
    · exact zg
  · have bnd : ∀ q, ((S q ∨ q = g) ∨ q = wr.heap.size) → base ≤ q ∧ q < W.heap.size := fun q hq => by
      rcases hq with (hq | rfl) | rfl
      · have := HS q hq; omega
      · omega
      · have := HBW.size; omega
    by_cases h0 : kd = 0
    · subst h0
      have h := skVarK (L := cat Ls j) (l0 := 0) bnd (.inr rfl) (skVar (b := wr.heap.size) (R := g) (n := j) (c := c) (xs := xs) (Ls := Ls) (B2 := w.heap.size + 1) (S := fun q => (S q ∨ q = g) ∨ q = wr.heap.size) (w := W) 0 (.inr rfl) (.inl (.inr rfl)) (by rw [hA.cell]; rfl) (by rw [hA.cell]; rfl) (hA.frozen 0) (ownKeep HW (fun k hk => by simp only [Value.ownBlock, Option.some.injEq] at hk; subst hk; exact hkp _ (.inr rfl))) ((HT.keep (by omega) (fun q hq => hkp q (.inl hq))).more (fun q hq => .inl (.inl hq)) (fun q hq => (bnd q hq).2)) (fun q hq => (bnd q hq).2) (by omega) (by omega))
      rw [hk]
      simpa using h
    · have e : k = false := by rw [hk]; simp [h0]
      rw [e]
      exact skLet (b := wr.heap.size) (kd := kd) 0 bnd (.inr rfl) (by rw [hA.cell]; rfl) h0 (by omega)

set_option maxRecDepth 100000 in
theorem dsOut (base p cap : Nat) (a : Option Addr) (w : World) (hB : base ≤ w.heap.size) : Calls Try.prog 13 #[.slice a p cap, .int .i64 p] w (DSP base p p w) := by
  have END := Lib.hid (fun o1 o2 b => leafD (base := base) (n := p) (p := p) (p' := p) (kk := 0) (w := w) ⟨_, _, rfl⟩ (fun W => skEmpty base b 0 W) (by omega) (by omega) (fun h => h) (by omega) o1 o2)
  go_enter Try.func13, Try.ntmps13
  go_wp2_with fail
  exact bodyPost_ret (v := .tuple #[.agg #[.iface 88 (.pointer (some ⟨w.heap.size + 1, 0, none⟩)), .int .i32 0], .int .i64 p, .int .i64 0]) (by simp [results, Try.results13, go_sem, *]) rfl (END.out _ _ _)

set_option maxRecDepth 100000 in
set_option maxHeartbeats 8000000 in
theorem ds0 (base n cap B off : Nat) (zs : List Int) (hn : n ≤ 4096) (hz : ∀ i, 0 ≤ zs.getD i 0 ∧ zs.getD i 0 ≤ 255) (m : Nat) (ih : ∀ (p : Nat) (w : World), n - p ≤ m → p ≤ n → Ops base w (some ⟨B, off, none⟩) n zs → base ≤ w.heap.size → Calls Try.prog 13 #[.slice (some ⟨B, off, none⟩) n cap, .int .i64 p] w (DSP base n p w)) (p : Nat) (w : World) (hm : n - p ≤ m + 1) (hpn : p < n) (hO : Ops base w (some ⟨B, off, none⟩) n zs) (hB : base ≤ w.heap.size) (z : Int) (c0 : w.cell? ⟨B, off + p, none⟩ = some (.int .u8 z)) (z0 : 0 ≤ z) (z1 : z ≤ 255) (hk : z % 16 = 0) :
    Calls Try.prog 13 #[.slice (some ⟨B, off, none⟩) n cap, .int .i64 p] w (DSP base n p w) := by
  have HO := Lib.hid hO
  have HZ := Lib.hid hz
  have lB : B < w.heap.size := World.block_lt_of_cell? _ _ c0
  have p0 : (0 : Int) ≤ (p : Int) := Int.natCast_nonneg _
  have p1 : (p : Int) < (n : Int) := by omega
  clear hO hz
  have END := Lib.hid (fun o1 o2 b => leafD (base := base) (n := n) (p := p) (p' := p + 1) (kk := 0) (w := w) ⟨_, _, rfl⟩ (fun W => skEmpty base b 0 W) (by omega) (by omega) (fun _ => by omega) (by omega) o1 o2)
  go_enter Try.func13, Try.ntmps13
  go_wp2_with fail
  exact bodyPost_ret (v := .tuple #[.agg #[.iface 88 (.pointer (some ⟨w.heap.size + 1, 0, none⟩)), .int .i32 0], .int .i64 ((p + 1 : Nat) : Int), .int .i64 0]) (by simp [results, Try.results13, go_sem, *]) rfl (END.out _ _ _)

set_option maxRecDepth 100000 in
set_option maxHeartbeats 8000000 in
theorem ds1 (base n cap B off : Nat) (zs : List Int) (hn : n ≤ 4096) (hz : ∀ i, 0 ≤ zs.getD i 0 ∧ zs.getD i 0 ≤ 255) (m : Nat) (ih : ∀ (p : Nat) (w : World), n - p ≤ m → p ≤ n → Ops base w (some ⟨B, off, none⟩) n zs → base ≤ w.heap.size → Calls Try.prog 13 #[.slice (some ⟨B, off, none⟩) n cap, .int .i64 p] w (DSP base n p w)) (p : Nat) (w : World) (hm : n - p ≤ m + 1) (hpn : p < n) (hO : Ops base w (some ⟨B, off, none⟩) n zs) (hB : base ≤ w.heap.size) (z : Int) (c0 : w.cell? ⟨B, off + p, none⟩ = some (.int .u8 z)) (z0 : 0 ≤ z) (z1 : z ≤ 255) (hk : z % 16 = 1) :
    Calls Try.prog 13 #[.slice (some ⟨B, off, none⟩) n cap, .int .i64 p] w (DSP base n p w) := by
  have HO := Lib.hid hO
  have HZ := Lib.hid hz
  have lB : B < w.heap.size := World.block_lt_of_cell? _ _ c0
  have p0 : (0 : Int) ≤ (p : Int) := Int.natCast_nonneg _
  have p1 : (p : Int) < (n : Int) := by omega
  clear hO hz
  have END := Lib.hid (fun o1 o2 b => leafD (base := base) (n := n) (p := p) (p' := p + 1) (kk := 0) (w := w) ⟨_, _, rfl⟩ (fun W => skExpr base b 0 W) (by omega) (by omega) (fun _ => by omega) (by omega) o1 o2)
  go_enter Try.func13, Try.ntmps13
  go_wp2_with fail
  exact bodyPost_ret (v := .tuple #[.agg #[.iface 91 (.pointer (some ⟨w.heap.size + 1, 0, none⟩)), .int .i32 0], .int .i64 ((p + 1 : Nat) : Int), .int .i64 0]) (by simp [results, Try.results13, go_sem, *]) rfl (END.out _ _ _)

set_option maxRecDepth 100000 in
set_option maxHeartbeats 8000000 in
theorem ds2 (base n cap B off : Nat) (zs : List Int) (hn : n ≤ 4096) (hz : ∀ i, 0 ≤ zs.getD i 0 ∧ zs.getD i 0 ≤ 255) (m : Nat) (ih : ∀ (p : Nat) (w : World), n - p ≤ m → p ≤ n → Ops base w (some ⟨B, off, none⟩) n zs → base ≤ w.heap.size → Calls Try.prog 13 #[.slice (some ⟨B, off, none⟩) n cap, .int .i64 p] w (DSP base n p w)) (p : Nat) (w : World) (hm : n - p ≤ m + 1) (hpn : p < n) (hO : Ops base w (some ⟨B, off, none⟩) n zs) (hB : base ≤ w.heap.size) (z : Int) (c0 : w.cell? ⟨B, off + p, none⟩ = some (.int .u8 z)) (z0 : 0 ≤ z) (z1 : z ≤ 255) (hk : z % 16 = 2) :
    Calls Try.prog 13 #[.slice (some ⟨B, off, none⟩) n cap, .int .i64 p] w (DSP base n p w) := by
  have HO := Lib.hid hO
  have HZ := Lib.hid hz
  have lB : B < w.heap.size := World.block_lt_of_cell? _ _ c0
  have p0 : (0 : Int) ≤ (p : Int) := Int.natCast_nonneg _
  have p1 : (p : Int) < (n : Int) := by omega
  clear hO hz
  have END := Lib.hid (fun o1 o2 b => leafD (base := base) (n := n) (p := p) (p' := p + 1) (kk := 0) (w := w) ⟨_, _, rfl⟩ (fun W => skThrow base b 0 W) (by omega) (by omega) (fun _ => by omega) (by omega) o1 o2)
  go_enter Try.func13, Try.ntmps13
  go_wp2_with fail
  exact bodyPost_ret (v := .tuple #[.agg #[.iface 94 (.pointer (some ⟨w.heap.size + 1, 0, none⟩)), .int .i32 0], .int .i64 ((p + 1 : Nat) : Int), .int .i64 0]) (by simp [results, Try.results13, go_sem, *]) rfl (END.out _ _ _)

set_option maxRecDepth 100000 in
set_option maxHeartbeats 8000000 in
theorem ds3 (base n cap B off : Nat) (zs : List Int) (hn : n ≤ 4096) (hz : ∀ i, 0 ≤ zs.getD i 0 ∧ zs.getD i 0 ≤ 255) (m : Nat) (ih : ∀ (p : Nat) (w : World), n - p ≤ m → p ≤ n → Ops base w (some ⟨B, off, none⟩) n zs → base ≤ w.heap.size → Calls Try.prog 13 #[.slice (some ⟨B, off, none⟩) n cap, .int .i64 p] w (DSP base n p w)) (p : Nat) (w : World) (hm : n - p ≤ m + 1) (hpn : p < n) (hO : Ops base w (some ⟨B, off, none⟩) n zs) (hB : base ≤ w.heap.size) (z : Int) (c0 : w.cell? ⟨B, off + p, none⟩ = some (.int .u8 z)) (z0 : 0 ≤ z) (z1 : z ≤ 255) (hk : z % 16 = 3) :
    Calls Try.prog 13 #[.slice (some ⟨B, off, none⟩) n cap, .int .i64 p] w (DSP base n p w) := by
  have HO := Lib.hid hO
  have HZ := Lib.hid hz
  have lB : B < w.heap.size := World.block_lt_of_cell? _ _ c0
  have p0 : (0 : Int) ≤ (p : Int) := Int.natCast_nonneg _
  have p1 : (p : Int) < (n : Int) := by omega
  clear hO hz
  have END := Lib.hid (fun o1 o2 b => leafD (base := base) (n := n) (p := p) (p' := p + 1) (kk := 0) (w := w) ⟨_, _, rfl⟩ (fun W => skReturn base b 0 W) (by omega) (by omega) (fun _ => by omega) (by omega) o1 o2)
  go_enter Try.func13, Try.ntmps13
  go_wp2_with fail
  exact bodyPost_ret (v := .tuple #[.agg #[.iface 97 (.pointer (some ⟨w.heap.size + 1, 0, none⟩)), .int .i32 0], .int .i64 ((p + 1 : Nat) : Int), .int .i64 0]) (by simp [results, Try.results13, go_sem, *]) rfl (END.out _ _ _)

set_option maxRecDepth 100000 in
set_option maxHeartbeats 8000000 in
theorem ds4 (base n cap B off : Nat) (zs : List Int) (hn : n ≤ 4096) (hz : ∀ i, 0 ≤ zs.getD i 0 ∧ zs.getD i 0 ≤ 255) (m : Nat) (ih : ∀ (p : Nat) (w : World), n - p ≤ m → p ≤ n → Ops base w (some ⟨B, off, none⟩) n zs → base ≤ w.heap.size → Calls Try.prog 13 #[.slice (some ⟨B, off, none⟩) n cap, .int .i64 p] w (DSP base n p w)) (p : Nat) (w : World) (hm : n - p ≤ m + 1) (hpn : p < n) (hO : Ops base w (some ⟨B, off, none⟩) n zs) (hB : base ≤ w.heap.size) (z : Int) (c0 : w.cell? ⟨B, off + p, none⟩ = some (.int .u8 z)) (z0 : 0 ≤ z) (z1 : z ≤ 255) (hk : z % 16 = 4) :
    Calls Try.prog 13 #[.slice (some ⟨B, off, none⟩) n cap, .int .i64 p] w (DSP base n p w) := by
  have HO := Lib.hid hO
  have HZ := Lib.hid hz
  have lB : B < w.heap.size := World.block_lt_of_cell? _ _ c0
  have p0 : (0 : Int) ≤ (p : Int) := Int.natCast_nonneg _
  have p1 : (p : Int) < (n : Int) := by omega
  clear hO hz
  have END := Lib.hid (fun o1 o2 b => leafD (base := base) (n := n) (p := p) (p' := p + 1) (kk := 0) (w := w) ⟨_, _, rfl⟩ (fun W => skBreak base b 0 W) (by omega) (by omega) (fun _ => by omega) (by omega) o1 o2)
  go_enter Try.func13, Try.ntmps13
  go_wp2_with fail
  exact bodyPost_ret (v := .tuple #[.agg #[.iface 100 (.pointer (some ⟨w.heap.size + 1, 0, none⟩)), .int .i32 0], .int .i64 ((p + 1 : Nat) : Int), .int .i64 0]) (by simp [results, Try.results13, go_sem, *]) rfl (END.out _ _ _)

set_option maxRecDepth 100000 in
set_option maxHeartbeats 8000000 in
theorem ds5 (base n cap B off : Nat) (zs : List Int) (hn : n ≤ 4096) (hz : ∀ i, 0 ≤ zs.getD i 0 ∧ zs.getD i 0 ≤ 255) (m : Nat) (ih : ∀ (p : Nat) (w : World), n - p ≤ m → p ≤ n → Ops base w (some ⟨B, off, none⟩) n zs → base ≤ w.heap.size → Calls Try.prog 13 #[.slice (some ⟨B, off, none⟩) n cap, .int .i64 p] w (DSP base n p w)) (p : Nat) (w : World) (hm : n - p ≤ m + 1) (hpn : p < n) (hO : Ops base w (some ⟨B, off, none⟩) n zs) (hB : base ≤ w.heap.size) (z : Int) (c0 : w.cell? ⟨B, off + p, none⟩ = some (.int .u8 z)) (z0 : 0 ≤ z) (z1 : z ≤ 255) (hk : z % 16 = 5) :
    Calls Try.prog 13 #[.slice (some ⟨B, off, none⟩) n cap, .int .i64 p] w (DSP base n p w) := by
  have HO := Lib.hid hO
  have HZ := Lib.hid hz
  have lB : B < w.heap.size := World.block_lt_of_cell? _ _ c0
  have p0 : (0 : Int) ≤ (p : Int) := Int.natCast_nonneg _
  have p1 : (p : Int) < (n : Int) := by omega
  clear hO hz
  have END := Lib.hid (fun o1 o2 b => leafD (base := base) (n := n) (p := p) (p' := p + 1) (kk := 0) (w := w) ⟨_, _, rfl⟩ (fun W => skContinue base b 0 W) (by omega) (by omega) (fun _ => by omega) (by omega) o1 o2)
  go_enter Try.func13, Try.ntmps13
  go_wp2_with fail
  exact bodyPost_ret (v := .tuple #[.agg #[.iface 104 (.pointer (some ⟨w.heap.size + 1, 0, none⟩)), .int .i32 0], .int .i64 ((p + 1 : Nat) : Int), .int .i64 0]) (by simp [results, Try.results13, go_sem, *]) rfl (END.out _ _ _)

set_option maxRecDepth 100000 in
set_option maxHeartbeats 8000000 in
theorem ds6 (base n cap B off : Nat) (zs : List Int) (hn : n ≤ 4096) (hz : ∀ i, 0 ≤ zs.getD i 0 ∧ zs.getD i 0 ≤ 255) (m : Nat) (ih : ∀ (p : Nat) (w : World), n - p ≤ m → p ≤ n → Ops base w (some ⟨B, off, none⟩) n zs → base ≤ w.heap.size → Calls Try.prog 13 #[.slice (some ⟨B, off, none⟩) n cap, .int .i64 p] w (DSP base n p w)) (p : Nat) (w : World) (hm : n - p ≤ m + 1) (hpn : p < n) (hO : Ops base w (some ⟨B, off, none⟩) n zs) (hB : base ≤ w.heap.size) (z : Int) (c0 : w.cell? ⟨B, off + p, none⟩ = some (.int .u8 z)) (z0 : 0 ≤ z) (z1 : z ≤ 255) (hk : z % 16 = 6) :
    Calls Try.prog 13 #[.slice (some ⟨B, off, none⟩) n cap, .int .i64 p] w (DSP base n p w) := by
  have HO := Lib.hid hO
  have HZ := Lib.hid hz
  have lB : B < w.heap.size := World.block_lt_of_cell? _ _ c0
  have p0 : (0 : Int) ≤ (p : Int) := Int.natCast_nonneg _
  have p1 : (p : Int) < (n : Int) := by omega
  clear hO hz
  have END := Lib.hid (fun o1 o2 b => leafD (base := base) (n := n) (p := p) (p' := p + 1) (kk := 0) (w := w) ⟨_, _, rfl⟩ (fun W => skClass base b 0 W) (by omega) (by omega) (fun _ => by omega) (by omega) o1 o2)
  go_enter Try.func13, Try.ntmps13
  go_wp2_with fail
  exact bodyPost_ret (v := .tuple #[.agg #[.iface 106 (.pointer (some ⟨w.heap.size + 1, 0, none⟩)), .int .i32 0], .int .i64 ((p + 1 : Nat) : Int), .int .i64 0]) (by simp [results, Try.results13, go_sem, *]) rfl (END.out _ _ _)

set_option maxRecDepth 100000 in
set_option maxHeartbeats 8000000 in
theorem ds7 (base n cap B off : Nat) (zs : List Int) (hn : n ≤ 4096) (hz : ∀ i, 0 ≤ zs.getD i 0 ∧ zs.getD i 0 ≤ 255) (m : Nat) (ih : ∀ (p : Nat) (w : World), n - p ≤ m → p ≤ n → Ops base w (some ⟨B, off, none⟩) n zs → base ≤ w.heap.size → Calls Try.prog 13 #[.slice (some ⟨B, off, none⟩) n cap, .int .i64 p] w (DSP base n p w)) (p : Nat) (w : World) (hm : n - p ≤ m + 1) (hpn : p < n) (hO : Ops base w (some ⟨B, off, none⟩) n zs) (hB : base ≤ w.heap.size) (z : Int) (c0 : w.cell? ⟨B, off + p, none⟩ = some (.int .u8 z)) (z0 : 0 ≤ z) (z1 : z ≤ 255) (hk : z % 16 = 7) :
    Calls Try.prog 13 #[.slice (some ⟨B, off, none⟩) n cap, .int .i64 p] w (DSP base n p w) := by
  have HO := Lib.hid hO
  have HZ := Lib.hid hz
  have lB : B < w.heap.size := World.block_lt_of_cell? _ _ c0
  have p0 : (0 : Int) ≤ (p : Int) := Int.natCast_nonneg _
  have p1 : (p : Int) < (n : Int) := by omega
  clear hO hz
  have END := Lib.hid (fun o1 o2 b => leafD (base := base) (n := n) (p := p) (p' := p + 1) (kk := 0) (w := w) ⟨_, _, rfl⟩ (fun W => skDebugger base b 0 W) (by omega) (by omega) (fun _ => by omega) (by omega) o1 o2)
  go_enter Try.func13, Try.ntmps13
  go_wp2_with fail
  exact bodyPost_ret (v := .tuple #[.agg #[.iface 115 (.pointer (some ⟨w.heap.size + 1, 0, none⟩)), .int .i32 0], .int .i64 ((p + 1 : Nat) : Int), .int .i64 0]) (by simp [results, Try.results13, go_sem, *]) rfl (END.out _ _ _)

set_option maxRecDepth 100000 in
set_option maxHeartbeats 8000000 in
theorem ds8 (base n cap B off : Nat) (zs : List Int) (hn : n ≤ 4096) (hz : ∀ i, 0 ≤ zs.getD i 0 ∧ zs.getD i 0 ≤ 255) (m : Nat) (ih : ∀ (p : Nat) (w : World), n - p ≤ m → p ≤ n → Ops base w (some ⟨B, off, none⟩) n zs → base ≤ w.heap.size → Calls Try.prog 13 #[.slice (some ⟨B, off, none⟩) n cap, .int .i64 p] w (DSP base n p w)) (p : Nat) (w : World) (hm : n - p ≤ m + 1) (hpn : p < n) (hO : Ops base w (some ⟨B, off, none⟩) n zs) (hB : base ≤ w.heap.size) (z : Int) (c0 : w.cell? ⟨B, off + p, none⟩ = some (.int .u8 z)) (z0 : 0 ≤ z) (z1 : z ≤ 255) (hk : z % 16 = 8) :
    Calls Try.prog 13 #[.slice (some ⟨B, off, none⟩) n cap, .int .i64 p] w (DSP base n p w) := by
  have HO := Lib.hid hO
  have HZ := Lib.hid hz
  have lB : B < w.heap.size := World.block_lt_of_cell? _ _ c0
  have p0 : (0 : Int) ≤ (p : Int) := Int.natCast_nonneg _
  have p1 : (p : Int) < (n : Int) := by omega
  clear hO hz
  go_enter Try.func13, Try.ntmps13
  go_wp2_with fail
  refine (nextAny base _ n cap (p + 1) zs _ (by omega) (by omega) HZ.out (HO.out.keep ((Below.refl base w).alloc hB _))).mono ?_
  rintro e w' ⟨f, pp, rfl, ⟨hf0, hf1, hpp, hpn1⟩, rfl⟩
  rcases (show f % 3 = 0 ∨ f % 3 = 1 ∨ f % 3 = 2 by omega) with hd | hd | hd
  · obtain ⟨N, hN⟩ : ∃ N : Nat, f / 4 % 4 = (N : Int) := ⟨(f / 4 % 4).toNat, by omega⟩
    have hN7 : N ≤ 3 := by omega
    obtain ⟨i0, hi0, hz0, hz1, hz2⟩ := info_parts infoD
    have I0 := Lib.hid hi0
    have I1 := Lib.hid hz0
    have I2 := Lib.hid hz1
    have I3 := Lib.hid hz2
    clear hi0 hz0 hz1 hz2
    go_wp2_with fail
    clear hd hN hk
    go_loopw [1, 11, 12, 13] (fun p1 s ids i wr => VR base n p N w (some ⟨B, off, none⟩) zs p1 s ids i wr) (fun _ _ _ i _ => N - (intOf i).toNat)
    case atStart =>
      refine ⟨0, pp, w.heap.size + 1, 0, [], fun _ => [], fun _ => False, Nat.zero_le _, rfl, rfl, hpn1, by omega, rfl, rfl, by simp [cat], Lib.hid ⟨rfl, .inr ⟨w.heap.size + 1, 0, #[], rfl, Nat.le_refl _, ?_, Nat.le_refl _, by simp [maxLen], rfl, rfl⟩⟩, Lib.hid ⟨rfl, fun q hq => absurd hq (by omega)⟩, Lib.hid (fun k hk => hk.elim), Lib.hid (fun h => h), Lib.hid (((Below.refl _ _).alloc (Nat.le_refl _) _).alloc (by simp) _), Lib.hid (HO.out.keep (((Below.refl base w).alloc hB _).alloc (by simp; omega) _)), Lib.hid ((At.new _ _ _).alloc _)⟩
      have h := heap_alloc_new (w.alloc (.cells #[.nilIface, .int .i32 0] 33)) (.cells #[] 67)
      simpa using h
    case round =>
      obtain ⟨j, p', g, c, xs, Ls, S, hj, rfl, rfl, hp1, hp2, rfl, rfl, hlen, HW, HT, HS, HG, HBW, HO1, HA⟩ := hrel
      by_cases hjn : j < N
      · by_cases hpn2 : p' < n
        · have HR := Lib.hid (show w.heap.size ≤ wr.heap.size from HBW.out.size)
          go_wp2_with fail
          refine (dec base n cap _ zs 0 (by omega) (by omega) hn HZ.out (n - p') p' _ (.slice none 0 0) 0 [] (by omega) hp1 (HO1.out.keep ((Below.refl base wr).alloc (by have := HR.out; omega) _)) (own0 _ _ _ _) (by have := HR.out; simp; omega) (by omega)).mono ?_
          rintro e w2 ⟨d, l, p2, S2, lv2, L2, rfl, ⟨ty, bq, rfl⟩, hfi, hS2, hp3, hp4, hp5, hL2, hlv2, hg2', _, _⟩
          obtain ⟨la, lc, rfl, _⟩ := ownRead hlv2 (by omega)
          have hg2 := gBelow hg2' (Nat.le_refl _) (fun k hk => by cases hk)
          have hA2 : At w2 wr.heap.size 44 #[.nilIface, .int .i32 0] := (hg2.block _ (by simp)).trans (At.new wr 44 _)
          have r0 : w2.cell? ⟨wr.heap.size, 0, none⟩ = some .nilIface := by rw [hA2.cell]; rfl
          have r1 : w2.cell? ⟨wr.heap.size, 1, none⟩ = some (.int .i32 0) := by rw [hA2.cell]; rfl
          have q0 := hA2.frozen 0
          have q1 := hA2.frozen 1
          have lr := hA2.lt
          have OWN := Lib.hid (show ∀ (u0 u1 : Value) (o : Obj), (((w2.setCell ⟨wr.heap.size, 0, none⟩ u0).setCell ⟨wr.heap.size, 1, none⟩ u1).alloc o).ownsRow (w.heap.size + 1) 67 4 (.slice (some ⟨g, 0, none⟩) j c) j xs from fun u0 u1 o => by
            have zg := (World.ownsRow.lt HW.out g rfl).2
            refine World.ownsRow.alloc (ownKeep HW.out (fun k hk => ?_)) _
            simp only [Value.ownBlock, Option.some.injEq] at hk
            subst hk
            rw [Below.heap_setCell _ _ _ g (by simp; omega), Below.heap_setCell _ _ _ g (by simp; omega)]
            exact (hg2.block g (by simp; omega)).trans (Below.heap_alloc wr _ g zg))
          have NEW := Lib.hid (show ∀ (u0 u1 : Value), ∀ (q : Nat) (u : Value), ([.iface ty (.pointer (some ⟨bq, 0, none⟩)), .int .i32 l, .nilIface, .int .i32 0] : List Value)[q]? = some u → (((w2.setCell ⟨wr.heap.size, 0, none⟩ u0).setCell ⟨wr.heap.size, 1, none⟩ u1).alloc (.cells #[.iface ty (.pointer (some ⟨bq, 0, none⟩)), .int .i32 l, .nilIface, .int .i32 0] 67)).cell? ((⟨w2.heap.size, 0, none⟩ : Addr).add q) = some u from fun u0 u1 => by
            have hh := heap_alloc_new ((w2.setCell ⟨wr.heap.size, 0, none⟩ u0).setCell ⟨wr.heap.size, 1, none⟩ u1) (.cells #[.iface ty (.pointer (some ⟨bq, 0, none⟩)), .int .i32 l, .nilIface, .int .i32 0] 67)
            rw [show ((w2.setCell ⟨wr.heap.size, 0, none⟩ u0).setCell ⟨wr.heap.size, 1, none⟩ u1).heap.size = w2.heap.size from by simp [World.setCell]] at hh
            exact World.news_of_block (cs := #[.iface ty (.pointer (some ⟨bq, 0, none⟩)), .int .i32 l, .nilIface, .int .i32 0]) (t := 67) (fr := (0, 0)) hh)
          have ONE := Lib.hid (show ∀ u ∈ ([.iface ty (.pointer (some ⟨bq, 0, none⟩)), .int .i32 l, .nilIface, .int .i32 0] : List Value), u.oneCell' = true from by simp [Value.oneCell'])
          have STEP := Lib.hid (fun u0 u1 o w3 g' c' ho3 hg3 hlie => stepV (N := N) (u0 := u0) (u1 := u1) (o := o) (w3 := w3) (g' := g') (c' := c') hB HO.out hjn hp2 (hp5 hpn2) hp4 hlen HW.out HT.out HS.out HG.out HBW.out HA.out hfi (by simpa using hS2) hL2 (hg2.mono (by simp)) ho3 hg3 hlie)
          have B1 : j + 1 ≤ maxLen := by unfold maxLen; omega
          have B2 : (j + 1) * 48 ≤ 140737488355328 := by omega
          have B3 := Lib.hid (show ∀ u0 u1 o, w.heap.size + 1 ≤ (((w2.setCell ⟨wr.heap.size, 0, none⟩ u0).setCell ⟨wr.heap.size, 1, none⟩ u1).alloc o).heap.size from fun _ _ _ => by have := HR.out; simp [World.setCell]; omega)
          have B4 := Lib.hid (show ∀ u0 u1 o, (((w2.setCell ⟨wr.heap.size, 0, none⟩ u0).setCell ⟨wr.heap.size, 1, none⟩ u1).alloc o).heap.size = w2.heap.size + 1 from fun _ _ _ => by simp [World.setCell])
          have B5 : (cat Ls j).length + L2.length ≤ 4096 := by omega
          have B6 : 0 + L2.length = L2.length := Nat.zero_add _
          obtain ⟨nL, hnL⟩ : ∃ m, m = L2.length := ⟨_, rfl⟩
          obtain ⟨nC, hnC⟩ : ∃ m, m = (cat Ls j).length := ⟨_, rfl⟩
          rw [B6, ← hnL]
          rw [← hnL, ← hnC] at STEP B5
          rw [← hnC]
          clear hfi hS2 hL2 hlv2 hg2 hg2' hA2 HW HT HS HG HBW HO1 HA hnL hnC hlen B6
          go_wp2_with (with_reducible refine wpList_append_lies _ (o := ⟨some 188, _, _, _, _, _⟩) rfl _ _ 64 rfl (w.heap.size + 1) 67 i0 _ 4 48 Try.underlying64 I0.out I1.out I2.out I3.out rfl (by omega) (.slice (some ⟨g, 0, none⟩) j c) j xs rfl (OWN.out _ _ _) ⟨w2.heap.size, 0, none⟩ 1 1 [.iface ty (.pointer (some ⟨bq, 0, none⟩)), .int .i32 l, .nilIface, .int .i32 0] rfl rfl (NEW.out _ _) ONE.out (by omega) B1 B2 (B3.out _ _ _) (w2.heap.size + 1) (B4.out _ _ _) ?_)
          intro g' c' w3 ho3 hg3 hlie hlt3
          have DA1 := Lib.hid (STEP.out _ _ _ _ _ _ ho3 hg3 hlie)
          clear ho3 hg3 hlie STEP OWN NEW
          go_wp2_with fail
          go_roundw
          case measure => simp [intOf]; omega
          case rel => exact DA1.out
        · have r0 : wr.cell? ⟨w.heap.size, 0, none⟩ = some .nilIface := by rw [HA.out.cell]; rfl
          have r1 : wr.cell? ⟨w.heap.size, 1, none⟩ = some (.int .i32 0) := by rw [HA.out.cell]; rfl
          have q0 := HA.out.frozen 0
          have q1 := HA.out.frozen 1
          have lr := HA.out.lt
          by_cases hC : (cat Ls j).length = 0
          · have END := Lib.hid (fun u0 u1 => endV (base := base) (n := n) (p := p) (kd := 0) (kk := 0) (k := false) (u0 := u0) (u1 := u1) hB hp1 hp2 (by omega) (by omega) (by omega) (by rw [List.length_eq_zero_iff.1 hC]; rfl) rfl (by omega) HW.out HT.out HS.out HG.out HBW.out HA.out)
            clear HW HT HS HG HBW HO1 HA
            obtain ⟨nC, hnC⟩ : ∃ m, m = (cat Ls j).length := ⟨_, rfl⟩
            rw [hC]
            clear hnC
            go_wp2_with fail
            exact bodyPost_ret (v := .tuple #[.agg #[.iface 75 (.pointer (some ⟨wr.heap.size, 0, none⟩)), .int .i32 0], .int .i64 p', .int .i64 0]) (by simp [results, Try.results13, go_sem, *]) rfl (END.out _ _)
          · have hC : 0 < (cat Ls j).length := by omega
            have END := Lib.hid (fun u0 u1 => endV (base := base) (n := n) (p := p) (kd := 0) (kk := 1) (k := true) (u0 := u0) (u1 := u1) hB hp1 hp2 (by omega) (by omega) (by omega) (by cases hL : cat Ls j with | nil => rw [hL] at hC; simp at hC | cons => rfl) rfl (by omega) HW.out HT.out HS.out HG.out HBW.out HA.out)
            clear HW HT HS HG HBW HO1 HA
            obtain ⟨nC, hnC⟩ : ∃ m, m = (cat Ls j).length := ⟨_, rfl⟩
            rw [← hnC]
            rw [← hnC] at hC
            have hC2 : (0 : Int) < (nC : Int) := by omega
            clear hnC
            go_wp2_with fail
            exact bodyPost_ret (v := .tuple #[.agg #[.iface 75 (.pointer (some ⟨wr.heap.size, 0, none⟩)), .int .i32 0], .int .i64 p', .int .i64 1]) (by simp [results, Try.results13, go_sem, *]) rfl (END.out _ _)
      · have r0 : wr.cell? ⟨w.heap.size, 0, none⟩ = some .nilIface := by rw [HA.out.cell]; rfl
        have r1 : wr.cell? ⟨w.heap.size, 1, none⟩ = some (.int .i32 0) := by rw [HA.out.cell]; rfl
        have q0 := HA.out.frozen 0
        have q1 := HA.out.frozen 1
        have lr := HA.out.lt
        by_cases hC : (cat Ls j).length = 0
        · have END := Lib.hid (fun u0 u1 => endV (base := base) (n := n) (p := p) (kd := 0) (kk := 0) (k := false) (u0 := u0) (u1 := u1) hB hp1 hp2 (by omega) (by omega) (by omega) (by rw [List.length_eq_zero_iff.1 hC]; rfl) rfl (by omega) HW.out HT.out HS.out HG.out HBW.out HA.out)
          clear HW HT HS HG HBW HO1 HA
          obtain ⟨nC, hnC⟩ : ∃ m, m = (cat Ls j).length := ⟨_, rfl⟩
          rw [hC]
          clear hnC
          go_wp2_with fail
          exact bodyPost_ret (v := .tuple #[.agg #[.iface 75 (.pointer (some ⟨wr.heap.size, 0, none⟩)), .int .i32 0], .int .i64 p', .int .i64 0]) (by simp [results, Try.results13, go_sem, *]) rfl (END.out _ _)
        · have hC : 0 < (cat Ls j).length := by omega
          have END := Lib.hid (fun u0 u1 => endV (base := base) (n := n) (p := p) (kd := 0) (kk := 1) (k := true) (u0 := u0) (u1 := u1) hB hp1 hp2 (by omega) (by omega) (by omega) (by cases hL : cat Ls j with | nil => rw [hL] at hC; simp at hC | cons => rfl) rfl (by omega) HW.out HT.out HS.out HG.out HBW.out HA.out)
          clear HW HT HS HG HBW HO1 HA
          obtain ⟨nC, hnC⟩ : ∃ m, m = (cat Ls j).length := ⟨_, rfl⟩
          rw [← hnC]
          rw [← hnC] at hC
          have hC2 : (0 : Int) < (nC : Int) := by omega
          clear hnC
          go_wp2_with fail
          exact bodyPost_ret (v := .tuple #[.agg #[.iface 75 (.pointer (some ⟨wr.heap.size, 0, none⟩)), .int .i32 0], .int .i64 p', .int .i64 1]) (by simp [results, Try.results13, go_sem, *]) rfl (END.out _ _)
  · obtain ⟨N, hN⟩ : ∃ N : Nat, f / 4 % 4 = (N : Int) := ⟨(f / 4 % 4).toNat, by omega⟩
    have hN7 : N ≤ 3 := by omega
    obtain ⟨i0, hi0, hz0, hz1, hz2⟩ := info_parts infoD
    have I0 := Lib.hid hi0
    have I1 := Lib.hid hz0
    have I2 := Lib.hid hz1
    have I3 := Lib.hid hz2
    clear hi0 hz0 hz1 hz2
    go_wp2_with fail
    clear hd hN hk
    go_loopw [1, 11, 12, 13] (fun p1 s ids i wr => VR base n p N w (some ⟨B, off, none⟩) zs p1 s ids i wr) (fun _ _ _ i _ => N - (intOf i).toNat)
    case atStart =>
      refine ⟨0, pp, w.heap.size + 1, 0, [], fun _ => [], fun _ => False, Nat.zero_le _, rfl, rfl, hpn1, by omega, rfl, rfl, by simp [cat], Lib.hid ⟨rfl, .inr ⟨w.heap.size + 1, 0, #[], rfl, Nat.le_refl _, ?_, Nat.le_refl _, by simp [maxLen], rfl, rfl⟩⟩, Lib.hid ⟨rfl, fun q hq => absurd hq (by omega)⟩, Lib.hid (fun k hk => hk.elim), Lib.hid (fun h => h), Lib.hid (((Below.refl _ _).alloc (Nat.le_refl _) _).alloc (by simp) _), Lib.hid (HO.out.keep (((Below.refl base w).alloc hB _).alloc (by simp; omega) _)), Lib.hid ((At.new _ _ _).alloc _)⟩
      have h := heap_alloc_new (w.alloc (.cells #[.nilIface, .int .i32 0] 33)) (.cells #[] 67)
      simpa using h
    case round =>
      obtain ⟨j, p', g, c, xs, Ls, S, hj, rfl, rfl, hp1, hp2, rfl, rfl, hlen, HW, HT, HS, HG, HBW, HO1, HA⟩ := hrel
      by_cases hjn : j < N
      · by_cases hpn2 : p' < n
        · have HR := Lib.hid (show w.heap.size ≤ wr.heap.size from HBW.out.size)
          go_wp2_with fail
          refine (dec base n cap _ zs 0 (by omega) (by omega) hn HZ.out (n - p') p' _ (.slice none 0 0) 0 [] (by omega) hp1 (HO1.out.keep ((Below.refl base wr).alloc (by have := HR.out; omega) _)) (own0 _ _ _ _) (by have := HR.out; simp; omega) (by omega)).mono ?_
          rintro e w2 ⟨d, l, p2, S2, lv2, L2, rfl, ⟨ty, bq, rfl⟩, hfi, hS2, hp3, hp4, hp5, hL2, hlv2, hg2', _, _⟩
          obtain ⟨la, lc, rfl, _⟩ := ownRead hlv2 (by omega)
          have hg2 := gBelow hg2' (Nat.le_refl _) (fun k hk => by cases hk)
          have hA2 : At w2 wr.heap.size 44 #[.nilIface, .int .i32 0] := (hg2.block _ (by simp)).trans (At.new wr 44 _)
          have r0 : w2.cell? ⟨wr.heap.size, 0, none⟩ = some .nilIface := by rw [hA2.cell]; rfl
          have r1 : w2.cell? ⟨wr.heap.size, 1, none⟩ = some (.int .i32 0) := by rw [hA2.cell]; rfl
          have q0 := hA2.frozen 0
          have q1 := hA2.frozen 1
          have lr := hA2.lt
          have OWN := Lib.hid (show ∀ (u0 u1 : Value) (o : Obj), (((w2.setCell ⟨wr.heap.size, 0, none⟩ u0).setCell ⟨wr.heap.size, 1, none⟩ u1).alloc o).ownsRow (w.heap.size + 1) 67 4 (.slice (some ⟨g, 0, none⟩) j c) j xs from fun u0 u1 o => by
            have zg := (World.ownsRow.lt HW.out g rfl).2
            refine World.ownsRow.alloc (ownKeep HW.out (fun k hk => ?_)) _
            simp only [Value.ownBlock, Option.some.injEq] at hk
            subst hk
            rw [Below.heap_setCell _ _ _ g (by simp; omega), Below.heap_setCell _ _ _ g (by simp; omega)]
            exact (hg2.block g (by simp; omega)).trans (Below.heap_alloc wr _ g zg))
          have NEW := Lib.hid (show ∀ (u0 u1 : Value), ∀ (q : Nat) (u : Value), ([.iface ty (.pointer (some ⟨bq, 0, none⟩)), .int .i32 l, .nilIface, .int .i32 0] : List Value)[q]? = some u → (((w2.setCell ⟨wr.heap.size, 0, none⟩ u0).setCell ⟨wr.heap.size, 1, none⟩ u1).alloc (.cells #[.iface ty (.pointer (some ⟨bq, 0, none⟩)), .int .i32 l, .nilIface, .int .i32 0] 67)).cell? ((⟨w2.heap.size, 0, none⟩ : Addr).add q) = some u from fun u0 u1 => by
            have hh := heap_alloc_new ((w2.setCell ⟨wr.heap.size, 0, none⟩ u0).setCell ⟨wr.heap.size, 1, none⟩ u1) (.cells #[.iface ty (.pointer (some ⟨bq, 0, none⟩)), .int .i32 l, .nilIface, .int .i32 0] 67)
            rw [show ((w2.setCell ⟨wr.heap.size, 0, none⟩ u0).setCell ⟨wr.heap.size, 1, none⟩ u1).heap.size = w2.heap.size from by simp [World.setCell]] at hh
            exact World.news_of_block (cs := #[.iface ty (.pointer (some ⟨bq, 0, none⟩)), .int .i32 l, .nilIface, .int .i32 0]) (t := 67) (fr := (0, 0)) hh)
          have ONE := Lib.hid (show ∀ u ∈ ([.iface ty (.pointer (some ⟨bq, 0, none⟩)), .int .i32 l, .nilIface, .int .i32 0] : List Value), u.oneCell' = true from by simp [Value.oneCell'])
          have STEP := Lib.hid (fun u0 u1 o w3 g' c' ho3 hg3 hlie => stepV (N := N) (u0 := u0) (u1 := u1) (o := o) (w3 := w3) (g' := g') (c' := c') hB HO.out hjn hp2 (hp5 hpn2) hp4 hlen HW.out HT.out HS.out HG.out HBW.out HA.out hfi (by simpa using hS2) hL2 (hg2.mono (by simp)) ho3 hg3 hlie)
          have B1 : j + 1 ≤ maxLen := by unfold maxLen; omega
          have B2 : (j + 1) * 48 ≤ 140737488355328 := by omega
          have B3 := Lib.hid (show ∀ u0 u1 o, w.heap.size + 1 ≤ (((w2.setCell ⟨wr.heap.size, 0, none⟩ u0).setCell ⟨wr.heap.size, 1, none⟩ u1).alloc o).heap.size from fun _ _ _ => by have := HR.out; simp [World.setCell]; omega)
          have B4 := Lib.hid (show ∀ u0 u1 o, (((w2.setCell ⟨wr.heap.size, 0, none⟩ u0).setCell ⟨wr.heap.size, 1, none⟩ u1).alloc o).heap.size = w2.heap.size + 1 from fun _ _ _ => by simp [World.setCell])
          have B5 : (cat Ls j).length + L2.length ≤ 4096 := by omega
          have B6 : 0 + L2.length = L2.length := Nat.zero_add _
          obtain ⟨nL, hnL⟩ : ∃ m, m = L2.length := ⟨_, rfl⟩
          obtain ⟨nC, hnC⟩ : ∃ m, m = (cat Ls j).length := ⟨_, rfl⟩
          rw [B6, ← hnL]
          rw [← hnL, ← hnC] at STEP B5
          rw [← hnC]
          clear hfi hS2 hL2 hlv2 hg2 hg2' hA2 HW HT HS HG HBW HO1 HA hnL hnC hlen B6
          go_wp2_with (with_reducible refine wpList_append_lies _ (o := ⟨some 188, _, _, _, _, _⟩) rfl _ _ 64 rfl (w.heap.size + 1) 67 i0 _ 4 48 Try.underlying64 I0.out I1.out I2.out I3.out rfl (by omega) (.slice (some ⟨g, 0, none⟩) j c) j xs rfl (OWN.out _ _ _) ⟨w2.heap.size, 0, none⟩ 1 1 [.iface ty (.pointer (some ⟨bq, 0, none⟩)), .int .i32 l, .nilIface, .int .i32 0] rfl rfl (NEW.out _ _) ONE.out (by omega) B1 B2 (B3.out _ _ _) (w2.heap.size + 1) (B4.out _ _ _) ?_)
          intro g' c' w3 ho3 hg3 hlie hlt3
          have DA1 := Lib.hid (STEP.out _ _ _ _ _ _ ho3 hg3 hlie)
          clear ho3 hg3 hlie STEP OWN NEW
          go_wp2_with fail
          go_roundw
          case measure => simp [intOf]; omega
          case rel => exact DA1.out
        · have r0 : wr.cell? ⟨w.heap.size, 0, none⟩ = some .nilIface := by rw [HA.out.cell]; rfl
          have r1 : wr.cell? ⟨w.heap.size, 1, none⟩ = some (.int .i32 0) := by rw [HA.out.cell]; rfl
          have q0 := HA.out.frozen 0
          have q1 := HA.out.frozen 1
          have lr := HA.out.lt
          have END := Lib.hid (fun u0 u1 => endV (base := base) (n := n) (p := p) (kd := 1) (kk := 0) (k := false) (u0 := u0) (u1 := u1) hB hp1 hp2 (by omega) (by omega) (by omega) (by simp) rfl (by omega) HW.out HT.out HS.out HG.out HBW.out HA.out)
          clear HW HT HS HG HBW HO1 HA
          obtain ⟨nC, hnC⟩ : ∃ m, m = (cat Ls j).length := ⟨_, rfl⟩
          rw [← hnC]
          clear hnC
          go_wp2_with fail
          exact bodyPost_ret (v := .tuple #[.agg #[.iface 75 (.pointer (some ⟨wr.heap.size, 0, none⟩)), .int .i32 0], .int .i64 p', .int .i64 0]) (by simp [results, Try.results13, go_sem, *]) rfl (END.out _ _)
      · have r0 : wr.cell? ⟨w.heap.size, 0, none⟩ = some .nilIface := by rw [HA.out.cell]; rfl
        have r1 : wr.cell? ⟨w.heap.size, 1, none⟩ = some (.int .i32 0) := by rw [HA.out.cell]; rfl
        have q0 := HA.out.frozen 0
        have q1 := HA.out.frozen 1
        have lr := HA.out.lt
        have END := Lib.hid (fun u0 u1 => endV (base := base) (n := n) (p := p) (kd := 1) (kk := 0) (k := false) (u0 := u0) (u1 := u1) hB hp1 hp2 (by omega) (by omega) (by omega) (by simp) rfl (by omega) HW.out HT.out HS.out HG.out HBW.out HA.out)
        clear HW HT HS HG HBW HO1 HA
        obtain ⟨nC, hnC⟩ : ∃ m, m = (cat Ls j).length := ⟨_, rfl⟩
        rw [← hnC]
        clear hnC
        go_wp2_with fail
        exact bodyPost_ret (v := .tuple #[.agg #[.iface 75 (.pointer (some ⟨wr.heap.size, 0, none⟩)), .int .i32 0], .int .i64 p', .int .i64 0]) (by simp [results, Try.results13, go_sem, *]) rfl (END.out _ _)
  · obtain ⟨N, hN⟩ : ∃ N : Nat, f / 4 % 4 = (N : Int) := ⟨(f / 4 % 4).toNat, by omega⟩
    have hN7 : N ≤ 3 := by omega
    obtain ⟨i0, hi0, hz0, hz1, hz2⟩ := info_parts infoD
    have I0 := Lib.hid hi0
    have I1 := Lib.hid hz0
    have I2 := Lib.hid hz1
    have I3 := Lib.hid hz2
    clear hi0 hz0 hz1 hz2
    go_wp2_with fail
    clear hd hN hk
    go_loopw [1, 11, 12, 13] (fun p1 s ids i wr => VR base n p N w (some ⟨B, off, none⟩) zs p1 s ids i wr) (fun _ _ _ i _ => N - (intOf i).toNat)
    case atStart =>
      refine ⟨0, pp, w.heap.size + 1, 0, [], fun _ => [], fun _ => False, Nat.zero_le _, rfl, rfl, hpn1, by omega, rfl, rfl, by simp [cat], Lib.hid ⟨rfl, .inr ⟨w.heap.size + 1, 0, #[], rfl, Nat.le_refl _, ?_, Nat.le_refl _, by simp [maxLen], rfl, rfl⟩⟩, Lib.hid ⟨rfl, fun q hq => absurd hq (by omega)⟩, Lib.hid (fun k hk => hk.elim), Lib.hid (fun h => h), Lib.hid (((Below.refl _ _).alloc (Nat.le_refl _) _).alloc (by simp) _), Lib.hid (HO.out.keep (((Below.refl base w).alloc hB _).alloc (by simp; omega) _)), Lib.hid ((At.new _ _ _).alloc _)⟩
      have h := heap_alloc_new (w.alloc (.cells #[.nilIface, .int .i32 0] 33)) (.cells #[] 67)
      simpa using h
    case round =>
      obtain ⟨j, p', g, c, xs, Ls, S, hj, rfl, rfl, hp1, hp2, rfl, rfl, hlen, HW, HT, HS, HG, HBW, HO1, HA⟩ := hrel
      by_cases hjn : j < N
      · by_cases hpn2 : p' < n
        · have HR := Lib.hid (show w.heap.size ≤ wr.heap.size from HBW.out.size)
          go_wp2_with fail
          refine (dec base n cap _ zs 0 (by omega) (by omega) hn HZ.out (n - p') p' _ (.slice none 0 0) 0 [] (by omega) hp1 (HO1.out.keep ((Below.refl base wr).alloc (by have := HR.out; omega) _)) (own0 _ _ _ _) (by have := HR.out; simp; omega) (by omega)).mono ?_
          rintro e w2 ⟨d, l, p2, S2, lv2, L2, rfl, ⟨ty, bq, rfl⟩, hfi, hS2, hp3, hp4, hp5, hL2, hlv2, hg2', _, _⟩
          obtain ⟨la, lc, rfl, _⟩ := ownRead hlv2 (by omega)
          have hg2 := gBelow hg2' (Nat.le_refl _) (fun k hk => by cases hk)
          have hA2 : At w2 wr.heap.size 44 #[.nilIface, .int .i32 0] := (hg2.block _ (by simp)).trans (At.new wr 44 _)
          have r0 : w2.cell? ⟨wr.heap.size, 0, none⟩ = some .nilIface := by rw [hA2.cell]; rfl
          have r1 : w2.cell? ⟨wr.heap.size, 1, none⟩ = some (.int .i32 0) := by rw [hA2.cell]; rfl
          have q0 := hA2.frozen 0
          have q1 := hA2.frozen 1
          have lr := hA2.lt
          have OWN := Lib.hid (show ∀ (u0 u1 : Value) (o : Obj), (((w2.setCell ⟨wr.heap.size, 0, none⟩ u0).setCell ⟨wr.heap.size, 1, none⟩ u1).alloc o).ownsRow (w.heap.size + 1) 67 4 (.slice (some ⟨g, 0, none⟩) j c) j xs from fun u0 u1 o => by
            have zg := (World.ownsRow.lt HW.out g rfl).2
            refine World.ownsRow.alloc (ownKeep HW.out (fun k hk => ?_)) _
            simp only [Value.ownBlock, Option.some.injEq] at hk
            subst hk
            rw [Below.heap_setCell _ _ _ g (by simp; omega), Below.heap_setCell _ _ _ g (by simp; omega)]
            exact (hg2.block g (by simp; omega)).trans (Below.heap_alloc wr _ g zg))
          have NEW := Lib.hid (show ∀ (u0 u1 : Value), ∀ (q : Nat) (u : Value), ([.iface ty (.pointer (some ⟨bq, 0, none⟩)), .int .i32 l, .nilIface, .int .i32 0] : List Value)[q]? = some u → (((w2.setCell ⟨wr.heap.size, 0, none⟩ u0).setCell ⟨wr.heap.size, 1, none⟩ u1).alloc (.cells #[.iface ty (.pointer (some ⟨bq, 0, none⟩)), .int .i32 l, .nilIface, .int .i32 0] 67)).cell? ((⟨w2.heap.size, 0, none⟩ : Addr).add q) = some u from fun u0 u1 => by
            have hh := heap_alloc_new ((w2.setCell ⟨wr.heap.size, 0, none⟩ u0).setCell ⟨wr.heap.size, 1, none⟩ u1) (.cells #[.iface ty (.pointer (some ⟨bq, 0, none⟩)), .int .i32 l, .nilIface, .int .i32 0] 67)
            rw [show ((w2.setCell ⟨wr.heap.size, 0, none⟩ u0).setCell ⟨wr.heap.size, 1, none⟩ u1).heap.size = w2.heap.size from by simp [World.setCell]] at hh
            exact World.news_of_block (cs := #[.iface ty (.pointer (some ⟨bq, 0, none⟩)), .int .i32 l, .nilIface, .int .i32 0]) (t := 67) (fr := (0, 0)) hh)
          have ONE := Lib.hid (show ∀ u ∈ ([.iface ty (.pointer (some ⟨bq, 0, none⟩)), .int .i32 l, .nilIface, .int .i32 0] : List Value), u.oneCell' = true from by simp [Value.oneCell'])
          have STEP := Lib.hid (fun u0 u1 o w3 g' c' ho3 hg3 hlie => stepV (N := N) (u0 := u0) (u1 := u1) (o := o) (w3 := w3) (g' := g') (c' := c') hB HO.out hjn hp2 (hp5 hpn2) hp4 hlen HW.out HT.out HS.out HG.out HBW.out HA.out hfi (by simpa using hS2) hL2 (hg2.mono (by simp)) ho3 hg3 hlie)
          have B1 : j + 1 ≤ maxLen := by unfold maxLen; omega
          have B2 : (j + 1) * 48 ≤ 140737488355328 := by omega
          have B3 := Lib.hid (show ∀ u0 u1 o, w.heap.size + 1 ≤ (((w2.setCell ⟨wr.heap.size, 0, none⟩ u0).setCell ⟨wr.heap.size, 1, none⟩ u1).alloc o).heap.size from fun _ _ _ => by have := HR.out; simp [World.setCell]; omega)
          have B4 := Lib.hid (show ∀ u0 u1 o, (((w2.setCell ⟨wr.heap.size, 0, none⟩ u0).setCell ⟨wr.heap.size, 1, none⟩ u1).alloc o).heap.size = w2.heap.size + 1 from fun _ _ _ => by simp [World.setCell])
          have B5 : (cat Ls j).length + L2.length ≤ 4096 := by omega
          have B6 : 0 + L2.length = L2.length := Nat.zero_add _
          obtain ⟨nL, hnL⟩ : ∃ m, m = L2.length := ⟨_, rfl⟩
          obtain ⟨nC, hnC⟩ : ∃ m, m = (cat Ls j).length := ⟨_, rfl⟩
          rw [B6, ← hnL]
          rw [← hnL, ← hnC] at STEP B5
          rw [← hnC]
          clear hfi hS2 hL2 hlv2 hg2 hg2' hA2 HW HT HS HG HBW HO1 HA hnL hnC hlen B6
          go_wp2_with (with_reducible refine wpList_append_lies _ (o := ⟨some 188, _, _, _, _, _⟩) rfl _ _ 64 rfl (w.heap.size + 1) 67 i0 _ 4 48 Try.underlying64 I0.out I1.out I2.out I3.out rfl (by omega) (.slice (some ⟨g, 0, none⟩) j c) j xs rfl (OWN.out _ _ _) ⟨w2.heap.size, 0, none⟩ 1 1 [.iface ty (.pointer (some ⟨bq, 0, none⟩)), .int .i32 l, .nilIface, .int .i32 0] rfl rfl (NEW.out _ _) ONE.out (by omega) B1 B2 (B3.out _ _ _) (w2.heap.size + 1) (B4.out _ _ _) ?_)
          intro g' c' w3 ho3 hg3 hlie hlt3
          have DA1 := Lib.hid (STEP.out _ _ _ _ _ _ ho3 hg3 hlie)
          clear ho3 hg3 hlie STEP OWN NEW
          go_wp2_with fail
          go_roundw
          case measure => simp [intOf]; omega
          case rel => exact DA1.out
        · have r0 : wr.cell? ⟨w.heap.size, 0, none⟩ = some .nilIface := by rw [HA.out.cell]; rfl
          have r1 : wr.cell? ⟨w.heap.size, 1, none⟩ = some (.int .i32 0) := by rw [HA.out.cell]; rfl
          have q0 := HA.out.frozen 0
          have q1 := HA.out.frozen 1
          have lr := HA.out.lt
          have END := Lib.hid (fun u0 u1 => endV (base := base) (n := n) (p := p) (kd := 2) (kk := 0) (k := false) (u0 := u0) (u1 := u1) hB hp1 hp2 (by omega) (by omega) (by omega) (by simp) rfl (by omega) HW.out HT.out HS.out HG.out HBW.out HA.out)
          clear HW HT HS HG HBW HO1 HA
          obtain ⟨nC, hnC⟩ : ∃ m, m = (cat Ls j).length := ⟨_, rfl⟩
          rw [← hnC]
          clear hnC
          go_wp2_with fail
          exact bodyPost_ret (v := .tuple #[.agg #[.iface 75 (.pointer (some ⟨wr.heap.size, 0, none⟩)), .int .i32 0], .int .i64 p', .int .i64 0]) (by simp [results, Try.results13, go_sem, *]) rfl (END.out _ _)
      · have r0 : wr.cell? ⟨w.heap.size, 0, none⟩ = some .nilIface := by rw [HA.out.cell]; rfl
        have r1 : wr.cell? ⟨w.heap.size, 1, none⟩ = some (.int .i32 0) := by rw [HA.out.cell]; rfl
        have q0 := HA.out.frozen 0
        have q1 := HA.out.frozen 1
        have lr := HA.out.lt
        have END := Lib.hid (fun u0 u1 => endV (base := base) (n := n) (p := p) (kd := 2) (kk := 0) (k := false) (u0 := u0) (u1 := u1) hB hp1 hp2 (by omega) (by omega) (by omega) (by simp) rfl (by omega) HW.out HT.out HS.out HG.out HBW.out HA.out)
        clear HW HT HS HG HBW HO1 HA
        obtain ⟨nC, hnC⟩ : ∃ m, m = (cat Ls j).length := ⟨_, rfl⟩
        rw [← hnC]
        clear hnC
        go_wp2_with fail
        exact bodyPost_ret (v := .tuple #[.agg #[.iface 75 (.pointer (some ⟨wr.heap.size, 0, none⟩)), .int .i32 0], .int .i64 p', .int .i64 0]) (by simp [results, Try.results13, go_sem, *]) rfl (END.out _ _)

set_option maxRecDepth 100000 in
set_option maxHeartbeats 8000000 in
theorem ds9 (base n cap B off : Nat) (zs : List Int) (hn : n ≤ 4096) (hz : ∀ i, 0 ≤ zs.getD i 0 ∧ zs.getD i 0 ≤ 255) (m : Nat) (ih : ∀ (p : Nat) (w : World), n - p ≤ m → p ≤ n → Ops base w (some ⟨B, off, none⟩) n zs → base ≤ w.heap.size → Calls Try.prog 13 #[.slice (some ⟨B, off, none⟩) n cap, .int .i64 p] w (DSP base n p w)) (p : Nat) (w : World) (hm : n - p ≤ m + 1) (hpn : p < n) (hO : Ops base w (some ⟨B, off, none⟩) n zs) (hB : base ≤ w.heap.size) (z : Int) (c0 : w.cell? ⟨B, off + p, none⟩ = some (.int .u8 z)) (z0 : 0 ≤ z) (z1 : z ≤ 255) (hk : z % 16 = 9) :
    Calls Try.prog 13 #[.slice (some ⟨B, off, none⟩) n cap, .int .i64 p] w (DSP base n p w) := by
  have HO := Lib.hid hO
  have HZ := Lib.hid hz
  have lB : B < w.heap.size := World.block_lt_of_cell? _ _ c0
  have p0 : (0 : Int) ≤ (p : Int) := Int.natCast_nonneg _
  have p1 : (p : Int) < (n : Int) := by omega
  clear hO hz
  go_enter Try.func13, Try.ntmps13
  go_wp2_with fail
  refine (nextAny base _ n cap (p + 1) zs _ (by omega) (by omega) HZ.out (HO.out.keep ((Below.refl base w).alloc hB _))).mono ?_
  rintro e w' ⟨f, pp, rfl, ⟨hf0, hf1, hpp, hpn1⟩, rfl⟩
  obtain ⟨N, hN⟩ : ∃ N : Nat, f % 8 = (N : Int) := ⟨(f % 8).toNat, by omega⟩
  have hN7 : N ≤ 7 := by omega
  go_wp2_with fail
  obtain ⟨V0, hV⟩ : ∃ V, V = w.alloc (.cells #[.nilIface, .int .i32 0] 33) := ⟨_, rfl⟩
  rw [← hV]
  have BX0 := Lib.hid (show Below w.heap.size w V0 from by rw [hV]; exact (by repeat (first | with_reducible exact Below.refl _ _ | (with_reducible refine Below.alloc ?_ (by simp; try omega) _))))
  have A0_0 := Lib.hid (show At V0 (w.heap.size) 33 #[.nilIface, .int .i32 0] from by rw [hV]; exact (atNew (by simp) 33 _))
  have zz0 : w.heap.size + 1 ≤ V0.heap.size := by rw [hV]; simp
  clear hV
  refine (lst base n cap _ zs hn m ih N (by omega) pp V0 (by omega) (by omega) (HO.out.keep (BX0.out.mono hB)) (Nat.le_trans hB BX0.out.size)).mono ?_
  rintro e w1 ⟨a1, j1, cp1, p1, k1, S1, rfl, f1, s1, pa1, pb1, kc1, b1⟩
  have zw1 := b1.size
  have BW1 := Lib.hid (show Below w.heap.size w w1 from BX0.out.trans (b1.mono (by omega)))
  have A0_w1 := Lib.hid (A0_0.out.below b1 (by omega))
  have sb1 : ∀ q, S1 q → w.heap.size + 1 ≤ q ∧ q < w1.heap.size := fun q hq => ⟨by have := s1 q hq; omega, (f1.1 q hq).2⟩
  have SB1_w1 := Lib.hid sb1
  have F1_w1 := Lib.hid f1
  clear BX0 A0_0
  clear f1 s1 b1 sb1
  have r00w1 : w1.cell? ⟨w.heap.size, 0, none⟩ = some (.nilIface) := by rw [A0_w1.out.cell]; rfl
  have r01w1 : w1.cell? ⟨w.heap.size, 1, none⟩ = some (.int .i32 0) := by rw [A0_w1.out.cell]; rfl
  have r02w1 := A0_w1.out.frozen 0
  have r03w1 := A0_w1.out.frozen 1
  have r04w1 := A0_w1.out.lt
  have END := Lib.hid (show ∀ u0 u1, DSP base n p w (.returned (.tuple #[.agg #[.iface 121 (.pointer (some ⟨w1.heap.size, 0, none⟩)), .int .i32 0], .int .i64 p1, .int .i64 ((k1 : Nat) : Int)])) (((w1.setCell ⟨w.heap.size, 0, none⟩ u0).setCell ⟨w.heap.size, 1, none⟩ u1).alloc (.cells #[.slice a1 j1 cp1, .int .i32 0] 123)) from fun u0 u1 => by
      have zk : w1.heap.size = w1.heap.size := by rfl
      have h := endN (base := base) (n := n) (p := p) (p' := p1) (kk := k1) (r := w.heap.size) (k := decide (0 < k1)) (w := w) (X := w1) (S := fun q => S1 q) (T := 123) (bT := 121) (cs := #[.slice a1 j1 cp1, .int .i32 0]) hB rfl BW1.out (by rw [zk]; omega) (fun q hq => ?_) (fun W hA hk hlt => ?_) rfl (by omega) (by omega) (fun _ => by omega) (by omega) u0 u1
      · rw [zk] at h; exact h
      · rcases hq with hq
        · have := SB1_w1.out q hq; rw [zk]; omega
      · rw [zk] at hlt
        have bnd : ∀ q, ((S1 q) ∨ q = w1.heap.size) → base ≤ q ∧ q < W.heap.size := fun q hq => by
          rw [zk] at hq
          rcases hq with hq | rfl
          · have := SB1_w1.out q hq; omega
          · omega
        exact skBlock _ 0 bnd (.inr rfl) (by rw [hA.cell]; rfl) ((F1_w1.out.keep (by omega) (fun q hq => (hk q hq).trans rfl)).more (fun q hq => .inl hq) bnd) )
  clear BW1 A0_w1 F1_w1 SB1_w1
  go_wp2_with fail
  exact bodyPost_ret (v := .tuple #[.agg #[.iface 121 (.pointer (some ⟨w1.heap.size, 0, none⟩)), .int .i32 0], .int .i64 p1, .int .i64 ((k1 : Nat) : Int)]) (by simp [results, Try.results13, go_sem, *]) rfl (END.out _ _)

set_option maxRecDepth 100000 in
set_option maxHeartbeats 8000000 in
theorem ds10 (base n cap B off : Nat) (zs : List Int) (hn : n ≤ 4096) (hz : ∀ i, 0 ≤ zs.getD i 0 ∧ zs.getD i 0 ≤ 255) (m : Nat) (ih : ∀ (p : Nat) (w : World), n - p ≤ m → p ≤ n → Ops base w (some ⟨B, off, none⟩) n zs → base ≤ w.heap.size → Calls Try.prog 13 #[.slice (some ⟨B, off, none⟩) n cap, .int .i64 p] w (DSP base n p w)) (p : Nat) (w : World) (hm : n - p ≤ m + 1) (hpn : p < n) (hO : Ops base w (some ⟨B, off, none⟩) n zs) (hB : base ≤ w.heap.size) (z : Int) (c0 : w.cell? ⟨B, off + p, none⟩ = some (.int .u8 z)) (z0 : 0 ≤ z) (z1 : z ≤ 255) (hk : z % 16 = 10) :
    Calls Try.prog 13 #[.slice (some ⟨B, off, none⟩) n cap, .int .i64 p] w (DSP base n p w) := by
  have HO := Lib.hid hO
  have HZ := Lib.hid hz
  have lB : B < w.heap.size := World.block_lt_of_cell? _ _ c0
  have p0 : (0 : Int) ≤ (p : Int) := Int.natCast_nonneg _
  have p1 : (p : Int) < (n : Int) := by omega
  clear hO hz
  go_enter Try.func13, Try.ntmps13
  go_wp2_with fail
  refine (nextAny base _ n cap (p + 1) zs _ (by omega) (by omega) HZ.out (HO.out.keep ((Below.refl base w).alloc hB _))).mono ?_
  rintro e w' ⟨f, pp, rfl, ⟨hf0, hf1, hpp, hpn1⟩, rfl⟩
  rcases and1 f hf0 hf1 with hb | hb
  · rcases and2 f hf0 hf1 with hc | hc
    · obtain ⟨N1, hN1, hN1b⟩ := and3n (f / 4) (by omega) (by omega)
      obtain ⟨N2, hN2, hN2b⟩ := and3n (f / 16) (by omega) (by omega)
      obtain ⟨N3, hN3, hN3b⟩ := and3n (f / 64) (by omega) (by omega)
      go_wp2_with fail
      obtain ⟨V0, hV⟩ : ∃ V, V = w.alloc (.cells #[.nilIface, .int .i32 0] 33) := ⟨_, rfl⟩
      rw [← hV]
      have BX0 := Lib.hid (show Below w.heap.size w V0 from by rw [hV]; exact (by repeat (first | with_reducible exact Below.refl _ _ | (with_reducible refine Below.alloc ?_ (by simp; try omega) _))))
      have A0_0 := Lib.hid (show At V0 (w.heap.size) 33 #[.nilIface, .int .i32 0] from by rw [hV]; exact (atNew (by simp) 33 _))
      have zz0 : w.heap.size + 1 ≤ V0.heap.size := by rw [hV]; simp
      clear hV
      refine (lst base n cap _ zs hn m ih N1 (by omega) pp V0 (by omega) (by omega) (HO.out.keep (BX0.out.mono hB)) (Nat.le_trans hB BX0.out.size)).mono ?_
      rintro e w1 ⟨a1, j1, cp1, p1, k1, S1, rfl, f1, s1, pa1, pb1, kc1, b1⟩
      have zw1 := b1.size
      have BW1 := Lib.hid (show Below w.heap.size w w1 from BX0.out.trans (b1.mono (by omega)))
      have A0_w1 := Lib.hid (A0_0.out.below b1 (by omega))
      have sb1 : ∀ q, S1 q → w.heap.size + 1 ≤ q ∧ q < w1.heap.size := fun q hq => ⟨by have := s1 q hq; omega, (f1.1 q hq).2⟩
      have SB1_w1 := Lib.hid sb1
      have F1_w1 := Lib.hid f1
      clear BX0 A0_0
      clear f1 s1 b1 sb1
      have r00w1 : w1.cell? ⟨w.heap.size, 0, none⟩ = some (.nilIface) := by rw [A0_w1.out.cell]; rfl
      have r01w1 : w1.cell? ⟨w.heap.size, 1, none⟩ = some (.int .i32 0) := by rw [A0_w1.out.cell]; rfl
      have r02w1 := A0_w1.out.frozen 0
      have r03w1 := A0_w1.out.frozen 1
      have r04w1 := A0_w1.out.lt
      have END := Lib.hid (show ∀ u0 u1, DSP base n p w (.returned (.tuple #[.agg #[.iface 125 (.pointer (some ⟨w1.heap.size, 0, none⟩)), .int .i32 0], .int .i64 p1, .int .i64 ((k1 : Nat) : Int)])) (((w1.setCell ⟨w.heap.size, 0, none⟩ u0).setCell ⟨w.heap.size, 1, none⟩ u1).alloc (.cells #[.pointer none, .pointer none, .slice a1 j1 cp1, .int .i32 0, .int .i32 0] 129)) from fun u0 u1 => by
          have zk : w1.heap.size = w1.heap.size := by rfl
          have h := endN (base := base) (n := n) (p := p) (p' := p1) (kk := k1) (r := w.heap.size) (k := decide (0 < k1)) (w := w) (X := w1) (S := fun q => S1 q) (T := 129) (bT := 125) (cs := #[.pointer none, .pointer none, .slice a1 j1 cp1, .int .i32 0, .int .i32 0]) hB rfl BW1.out (by rw [zk]; omega) (fun q hq => ?_) (fun W hA hk hlt => ?_) rfl (by omega) (by omega) (fun _ => by omega) (by omega) u0 u1
          · rw [zk] at h; exact h
          · rcases hq with hq
            · have := SB1_w1.out q hq; rw [zk]; omega
          · rw [zk] at hlt
            have bnd : ∀ q, ((S1 q) ∨ q = w1.heap.size) → base ≤ q ∧ q < W.heap.size := fun q hq => by
              rw [zk] at hq
              rcases hq with hq | rfl
              · have := SB1_w1.out q hq; omega
              · omega
            exact skTry00 _ 0 bnd (.inr rfl) (by rw [hA.cell]; rfl) ((F1_w1.out.keep (by omega) (fun q hq => (hk q hq).trans rfl)).more (fun q hq => .inl hq) bnd) (by rw [hA.cell]; rfl) (by rw [hA.cell]; rfl))
      clear BW1 A0_w1 F1_w1 SB1_w1
      go_wp2_with fail
      exact bodyPost_ret (v := .tuple #[.agg #[.iface 125 (.pointer (some ⟨w1.heap.size, 0, none⟩)), .int .i32 0], .int .i64 p1, .int .i64 ((k1 : Nat) : Int)]) (by simp [results, Try.results13, go_sem, *]) rfl (END.out _ _)
    · obtain ⟨N1, hN1, hN1b⟩ := and3n (f / 4) (by omega) (by omega)
      obtain ⟨N2, hN2, hN2b⟩ := and3n (f / 16) (by omega) (by omega)
      obtain ⟨N3, hN3, hN3b⟩ := and3n (f / 64) (by omega) (by omega)
      go_wp2_with fail
      obtain ⟨V0, hV⟩ : ∃ V, V = w.alloc (.cells #[.nilIface, .int .i32 0] 33) := ⟨_, rfl⟩
      rw [← hV]
      have BX0 := Lib.hid (show Below w.heap.size w V0 from by rw [hV]; exact (by repeat (first | with_reducible exact Below.refl _ _ | (with_reducible refine Below.alloc ?_ (by simp; try omega) _))))
      have A0_0 := Lib.hid (show At V0 (w.heap.size) 33 #[.nilIface, .int .i32 0] from by rw [hV]; exact (atNew (by simp) 33 _))
      have zz0 : w.heap.size + 1 ≤ V0.heap.size := by rw [hV]; simp
      clear hV
      refine (lst base n cap _ zs hn m ih N1 (by omega) pp V0 (by omega) (by omega) (HO.out.keep (BX0.out.mono hB)) (Nat.le_trans hB BX0.out.size)).mono ?_
      rintro e w1 ⟨a1, j1, cp1, p1, k1, S1, rfl, f1, s1, pa1, pb1, kc1, b1⟩
      have zw1 := b1.size
      have BW1 := Lib.hid (show Below w.heap.size w w1 from BX0.out.trans (b1.mono (by omega)))
      have A0_w1 := Lib.hid (A0_0.out.below b1 (by omega))
      have SB1 := Lib.hid (show ∀ q, S1 q → w.heap.size + 1 ≤ q ∧ q < w1.heap.size from fun q hq => ⟨by have := s1 q hq; omega, (f1.1 q hq).2⟩)
      have F1 := Lib.hid f1
      clear f1 s1 b1 BX0 A0_0
      go_wp2_with fail
      obtain ⟨V1, hV⟩ : ∃ V, V = w1.alloc (.cells #[.pointer none, .pointer none, .slice a1 j1 cp1, .int .i32 0, .int .i32 0] 129) := ⟨_, rfl⟩
      rw [← hV]
      have BX1 := Lib.hid (show Below w.heap.size w V1 from by rw [hV]; exact BW1.out.alloc (by omega) _)
      have A0_1 := Lib.hid (show At V1 w.heap.size 33 #[.nilIface, .int .i32 0] from by rw [hV]; exact A0_w1.out.alloc _)
      have AS_1 := Lib.hid (show At V1 w1.heap.size 129 #[.pointer none, .pointer none, .slice a1 j1 cp1, .int .i32 0, .int .i32 0] from by rw [hV]; exact At.new _ _ _)
      have F1_1 := Lib.hid (F1.out.keep (w' := V1) (by rw [hV]; simp) (fun q hq => by rw [hV]; exact Below.heap_alloc _ _ q (SB1.out q hq).2))
      have zv1 : V1.heap.size = w1.heap.size + 1 := by rw [hV]; simp
      obtain ⟨sb, hsb⟩ : ∃ s, s = w1.heap.size := ⟨_, rfl⟩
      rw [← hsb] at AS_1 SB1 zv1 zw1 ⊢
      clear hV hsb F1 A0_w1 BW1
      refine (lst base n cap _ zs hn m ih N3 (by omega) p1 V1 (by omega) (by omega) (HO.out.keep (BX1.out.mono hB)) (Nat.le_trans hB BX1.out.size)).mono ?_
      rintro e w2 ⟨a2, j2, cp2, p2, k2, S2, rfl, f2, s2, pa2, pb2, kc2, b2⟩
      have zw2 := b2.size
      have BW2 := Lib.hid (show Below w.heap.size w w2 from BX1.out.trans (b2.mono (by omega)))
      have A0_w2 := Lib.hid (A0_1.out.below b2 (by omega))
      have AS_w2 := Lib.hid (AS_1.out.below b2 (by omega))
      have F1_w2 := Lib.hid (F1_1.out.keep b2.size (fun q hq => b2.block q (by have := (SB1.out q hq).2; omega)))
      have SB2 := Lib.hid (show ∀ q, S2 q → sb + 1 ≤ q ∧ q < w2.heap.size from fun q hq => ⟨by have := s2 q hq; omega, (f2.1 q hq).2⟩)
      have F2_w2 := Lib.hid f2
      have x02 : w2.cell? ⟨w.heap.size, 0, none⟩ = some .nilIface := by rw [A0_w2.out.cell]; rfl
      have x12 : w2.cell? ⟨w.heap.size, 1, none⟩ = some (.int .i32 0) := by rw [A0_w2.out.cell]; rfl
      have x22 := A0_w2.out.frozen 0
      have x32 := A0_w2.out.frozen 1
      have x42 := A0_w2.out.lt
      have y02 := AS_w2.out.frozen 0
      have y12 := AS_w2.out.frozen 1
      have y22 := AS_w2.out.lt
      have y32 : w2.cell? ⟨sb, 0, none⟩ = some (.pointer none) := by rw [AS_w2.out.cell]; rfl
      have y42 : w2.cell? ⟨sb, 1, none⟩ = some (.pointer none) := by rw [AS_w2.out.cell]; rfl
      clear f2 s2 b2 BX1 A0_1 AS_1 F1_1
      have END := Lib.hid (show ∀ u0 u1, DSP base n p w (.returned (.tuple #[.agg #[.iface 125 (.pointer (some ⟨sb, 0, none⟩)), .int .i32 0], .int .i64 p2, .int .i64 ((k1 + k2 : Nat) : Int)])) ((((w2.setCell ⟨sb, 1, none⟩ (.pointer (some ⟨w2.heap.size, 0, none⟩))).setCell ⟨w.heap.size, 0, none⟩ u0).setCell ⟨w.heap.size, 1, none⟩ u1).alloc (.cells #[.slice a2 j2 cp2, .int .i32 0, .int .i32 0] 133)) from fun u0 u1 => by
        refine endT (k := decide (0 < k1) || decide (0 < k2)) (S := fun q => S1 q ∨ S2 q) (cs := #[.pointer none, .pointer none, .slice a1 j1 cp1, .int .i32 0, .int .i32 0]) _ hB rfl BW2.out (by omega) AS_w2.out (by omega) (fun q hq => ?_) (fun F hAs hAn hk hlt => ?_) (add_dec _ _) (by omega) (by omega) (fun _ => by omega) (by omega) u0 u1
        · rcases hq with hq | hq
          · have := SB1.out q hq; omega
          · have := SB2.out q hq; omega
        · have bnd : ∀ q, ((S1 q ∨ S2 q) ∨ q = sb ∨ q = w2.heap.size) → base ≤ q ∧ q < F.heap.size := fun q hq => by
            rcases hq with (hq | hq) | rfl | rfl
            · have := SB1.out q hq; omega
            · have := SB2.out q hq; omega
            · omega
            · omega
          exact skTry01 sb w2.heap.size 0 bnd (.inr (.inl rfl)) (.inr (.inr rfl)) (by rw [hAs.cell]; rfl) ((F1_w2.out.keep (by omega) (fun q hq => hk q (.inl hq))).more (fun q hq => .inl (.inl hq)) bnd) (by rw [hAn.cell]; rfl) ((F2_w2.out.keep (by omega) (fun q hq => hk q (.inr hq))).more (fun q hq => .inl (.inr hq)) bnd) (by rw [hAs.cell]; rfl) (by rw [hAs.cell]; rfl))
      clear BW2 A0_w2 AS_w2 F1_w2 F2_w2 SB2
      go_wp2_with fail
      exact bodyPost_ret (v := .tuple #[.agg #[.iface 125 (.pointer (some ⟨sb, 0, none⟩)), .int .i32 0], .int .i64 p2, .int .i64 ((k1 + k2 : Nat) : Int)]) (by simp [results, Try.results13, go_sem, *]) rfl (END.out _ _)
  · rcases and2 f hf0 hf1 with hc | hc
    · obtain ⟨N1, hN1, hN1b⟩ := and3n (f / 4) (by omega) (by omega)
      obtain ⟨N2, hN2, hN2b⟩ := and3n (f / 16) (by omega) (by omega)
      obtain ⟨N3, hN3, hN3b⟩ := and3n (f / 64) (by omega) (by omega)
      go_wp2_with fail
      obtain ⟨V0, hV⟩ : ∃ V, V = w.alloc (.cells #[.nilIface, .int .i32 0] 33) := ⟨_, rfl⟩
      rw [← hV]
      have BX0 := Lib.hid (show Below w.heap.size w V0 from by rw [hV]; exact (by repeat (first | with_reducible exact Below.refl _ _ | (with_reducible refine Below.alloc ?_ (by simp; try omega) _))))
      have A0_0 := Lib.hid (show At V0 (w.heap.size) 33 #[.nilIface, .int .i32 0] from by rw [hV]; exact (atNew (by simp) 33 _))
      have zz0 : w.heap.size + 1 ≤ V0.heap.size := by rw [hV]; simp
      clear hV
      refine (lst base n cap _ zs hn m ih N1 (by omega) pp V0 (by omega) (by omega) (HO.out.keep (BX0.out.mono hB)) (Nat.le_trans hB BX0.out.size)).mono ?_
      rintro e w1 ⟨a1, j1, cp1, p1, k1, S1, rfl, f1, s1, pa1, pb1, kc1, b1⟩
      have zw1 := b1.size
      have BW1 := Lib.hid (show Below w.heap.size w w1 from BX0.out.trans (b1.mono (by omega)))
      have A0_w1 := Lib.hid (A0_0.out.below b1 (by omega))
      have SB1 := Lib.hid (show ∀ q, S1 q → w.heap.size + 1 ≤ q ∧ q < w1.heap.size from fun q hq => ⟨by have := s1 q hq; omega, (f1.1 q hq).2⟩)
      have F1 := Lib.hid f1
      clear f1 s1 b1 BX0 A0_0
      go_wp2_with fail
      obtain ⟨V1, hV⟩ : ∃ V, V = w1.alloc (.cells #[.pointer none, .pointer none, .slice a1 j1 cp1, .int .i32 0, .int .i32 0] 129) := ⟨_, rfl⟩
      rw [← hV]
      have BX1 := Lib.hid (show Below w.heap.size w V1 from by rw [hV]; exact BW1.out.alloc (by omega) _)
      have A0_1 := Lib.hid (show At V1 w.heap.size 33 #[.nilIface, .int .i32 0] from by rw [hV]; exact A0_w1.out.alloc _)
      have AS_1 := Lib.hid (show At V1 w1.heap.size 129 #[.pointer none, .pointer none, .slice a1 j1 cp1, .int .i32 0, .int .i32 0] from by rw [hV]; exact At.new _ _ _)
      have F1_1 := Lib.hid (F1.out.keep (w' := V1) (by rw [hV]; simp) (fun q hq => by rw [hV]; exact Below.heap_alloc _ _ q (SB1.out q hq).2))
      have zv1 : V1.heap.size = w1.heap.size + 1 := by rw [hV]; simp
      obtain ⟨sb, hsb⟩ : ∃ s, s = w1.heap.size := ⟨_, rfl⟩
      rw [← hsb] at AS_1 SB1 zv1 zw1 ⊢
      clear hV hsb F1 A0_w1 BW1
      refine (lst base n cap _ zs hn m ih N2 (by omega) p1 V1 (by omega) (by omega) (HO.out.keep (BX1.out.mono hB)) (Nat.le_trans hB BX1.out.size)).mono ?_
      rintro e w2 ⟨a2, j2, cp2, p2, k2, S2, rfl, f2, s2, pa2, pb2, kc2, b2⟩
      have zw2 := b2.size
      have BW2 := Lib.hid (show Below w.heap.size w w2 from BX1.out.trans (b2.mono (by omega)))
      have A0_w2 := Lib.hid (A0_1.out.below b2 (by omega))
      have AS_w2 := Lib.hid (AS_1.out.below b2 (by omega))
      have F1_w2 := Lib.hid (F1_1.out.keep b2.size (fun q hq => b2.block q (by have := (SB1.out q hq).2; omega)))
      have SB2 := Lib.hid (show ∀ q, S2 q → sb + 1 ≤ q ∧ q < w2.heap.size from fun q hq => ⟨by have := s2 q hq; omega, (f2.1 q hq).2⟩)
      have F2_w2 := Lib.hid f2
      have x02 : w2.cell? ⟨w.heap.size, 0, none⟩ = some .nilIface := by rw [A0_w2.out.cell]; rfl
      have x12 : w2.cell? ⟨w.heap.size, 1, none⟩ = some (.int .i32 0) := by rw [A0_w2.out.cell]; rfl
      have x22 := A0_w2.out.frozen 0
      have x32 := A0_w2.out.frozen 1
      have x42 := A0_w2.out.lt
      have y02 := AS_w2.out.frozen 0
      have y12 := AS_w2.out.frozen 1
      have y22 := AS_w2.out.lt
      have y32 : w2.cell? ⟨sb, 0, none⟩ = some (.pointer none) := by rw [AS_w2.out.cell]; rfl
      have y42 : w2.cell? ⟨sb, 1, none⟩ = some (.pointer none) := by rw [AS_w2.out.cell]; rfl
      clear f2 s2 b2 BX1 A0_1 AS_1 F1_1
      have END := Lib.hid (show ∀ u0 u1, DSP base n p w (.returned (.tuple #[.agg #[.iface 125 (.pointer (some ⟨sb, 0, none⟩)), .int .i32 0], .int .i64 p2, .int .i64 ((k1 + k2 : Nat) : Int)])) ((((w2.setCell ⟨sb, 0, none⟩ (.pointer (some ⟨w2.heap.size, 0, none⟩))).setCell ⟨w.heap.size, 0, none⟩ u0).setCell ⟨w.heap.size, 1, none⟩ u1).alloc (.cells #[.nilIface, .int .i32 0, .slice a2 j2 cp2, .int .i32 0, .int .i32 0, .int .i32 0] 131)) from fun u0 u1 => by
        refine endT (k := decide (0 < k1) || decide (0 < k2)) (S := fun q => S1 q ∨ S2 q) (cs := #[.pointer none, .pointer none, .slice a1 j1 cp1, .int .i32 0, .int .i32 0]) _ hB rfl BW2.out (by omega) AS_w2.out (by omega) (fun q hq => ?_) (fun F hAs hAn hk hlt => ?_) (add_dec _ _) (by omega) (by omega) (fun _ => by omega) (by omega) u0 u1
        · rcases hq with hq | hq
          · have := SB1.out q hq; omega
          · have := SB2.out q hq; omega
        · have bnd : ∀ q, ((S1 q ∨ S2 q) ∨ q = sb ∨ q = w2.heap.size) → base ≤ q ∧ q < F.heap.size := fun q hq => by
            rcases hq with (hq | hq) | rfl | rfl
            · have := SB1.out q hq; omega
            · have := SB2.out q hq; omega
            · omega
            · omega
          exact skTry10 sb w2.heap.size 0 bnd (.inr (.inl rfl)) (.inr (.inr rfl)) (by rw [hAs.cell]; rfl) ((F1_w2.out.keep (by omega) (fun q hq => hk q (.inl hq))).more (fun q hq => .inl (.inl hq)) bnd) (by rw [hAn.cell]; rfl) ((F2_w2.out.keep (by omega) (fun q hq => hk q (.inr hq))).more (fun q hq => .inl (.inr hq)) bnd) (by rw [hAs.cell]; rfl) (by rw [hAs.cell]; rfl))
      clear BW2 A0_w2 AS_w2 F1_w2 F2_w2 SB2
      go_wp2_with fail
      exact bodyPost_ret (v := .tuple #[.agg #[.iface 125 (.pointer (some ⟨sb, 0, none⟩)), .int .i32 0], .int .i64 p2, .int .i64 ((k1 + k2 : Nat) : Int)]) (by simp [results, Try.results13, go_sem, *]) rfl (END.out _ _)
    · obtain ⟨N1, hN1, hN1b⟩ := and3n (f / 4) (by omega) (by omega)
      obtain ⟨N2, hN2, hN2b⟩ := and3n (f / 16) (by omega) (by omega)
      obtain ⟨N3, hN3, hN3b⟩ := and3n (f / 64) (by omega) (by omega)
      go_wp2_with fail
      obtain ⟨V0, hV⟩ : ∃ V, V = w.alloc (.cells #[.nilIface, .int .i32 0] 33) := ⟨_, rfl⟩
      rw [← hV]
      have BX0 := Lib.hid (show Below w.heap.size w V0 from by rw [hV]; exact (by repeat (first | with_reducible exact Below.refl _ _ | (with_reducible refine Below.alloc ?_ (by simp; try omega) _))))
      have A0_0 := Lib.hid (show At V0 (w.heap.size) 33 #[.nilIface, .int .i32 0] from by rw [hV]; exact (atNew (by simp) 33 _))
      have zz0 : w.heap.size + 1 ≤ V0.heap.size := by rw [hV]; simp
      clear hV
      refine (lst base n cap _ zs hn m ih N1 (by omega) pp V0 (by omega) (by omega) (HO.out.keep (BX0.out.mono hB)) (Nat.le_trans hB BX0.out.size)).mono ?_
      rintro e w1 ⟨a1, j1, cp1, p1, k1, S1, rfl, f1, s1, pa1, pb1, kc1, b1⟩
      have zw1 := b1.size
      have BW1 := Lib.hid (show Below w.heap.size w w1 from BX0.out.trans (b1.mono (by omega)))
      have A0_w1 := Lib.hid (A0_0.out.below b1 (by omega))
      have SB1 := Lib.hid (show ∀ q, S1 q → w.heap.size + 1 ≤ q ∧ q < w1.heap.size from fun q hq => ⟨by have := s1 q hq; omega, (f1.1 q hq).2⟩)
      have F1 := Lib.hid f1
      clear f1 s1 b1 BX0 A0_0
      go_wp2_with fail
      obtain ⟨V1, hV⟩ : ∃ V, V = w1.alloc (.cells #[.pointer none, .pointer none, .slice a1 j1 cp1, .int .i32 0, .int .i32 0] 129) := ⟨_, rfl⟩
      rw [← hV]
      have BX1 := Lib.hid (show Below w.heap.size w V1 from by rw [hV]; exact BW1.out.alloc (by omega) _)
      have A0_1 := Lib.hid (show At V1 w.heap.size 33 #[.nilIface, .int .i32 0] from by rw [hV]; exact A0_w1.out.alloc _)
      have AS_1 := Lib.hid (show At V1 w1.heap.size 129 #[.pointer none, .pointer none, .slice a1 j1 cp1, .int .i32 0, .int .i32 0] from by rw [hV]; exact At.new _ _ _)
      have F1_1 := Lib.hid (F1.out.keep (w' := V1) (by rw [hV]; simp) (fun q hq => by rw [hV]; exact Below.heap_alloc _ _ q (SB1.out q hq).2))
      have zv1 : V1.heap.size = w1.heap.size + 1 := by rw [hV]; simp
      obtain ⟨sb, hsb⟩ : ∃ s, s = w1.heap.size := ⟨_, rfl⟩
      rw [← hsb] at AS_1 SB1 zv1 zw1 ⊢
      clear hV hsb F1 A0_w1 BW1
      refine (lst base n cap _ zs hn m ih N2 (by omega) p1 V1 (by omega) (by omega) (HO.out.keep (BX1.out.mono hB)) (Nat.le_trans hB BX1.out.size)).mono ?_
      rintro e w2 ⟨a2, j2, cp2, p2, k2, S2, rfl, f2, s2, pa2, pb2, kc2, b2⟩
      have zw2 := b2.size
      have BW2 := Lib.hid (show Below w.heap.size w w2 from BX1.out.trans (b2.mono (by omega)))
      have A0_w2 := Lib.hid (A0_1.out.below b2 (by omega))
      have AS_w2 := Lib.hid (AS_1.out.below b2 (by omega))
      have F1_w2 := Lib.hid (F1_1.out.keep b2.size (fun q hq => b2.block q (by have := (SB1.out q hq).2; omega)))
      have SB2 := Lib.hid (show ∀ q, S2 q → sb + 1 ≤ q ∧ q < w2.heap.size from fun q hq => ⟨by have := s2 q hq; omega, (f2.1 q hq).2⟩)
      have F2_w2 := Lib.hid f2
      have x02 : w2.cell? ⟨w.heap.size, 0, none⟩ = some .nilIface := by rw [A0_w2.out.cell]; rfl
      have x12 : w2.cell? ⟨w.heap.size, 1, none⟩ = some (.int .i32 0) := by rw [A0_w2.out.cell]; rfl
      have x22 := A0_w2.out.frozen 0
      have x32 := A0_w2.out.frozen 1
      have x42 := A0_w2.out.lt
      have y02 := AS_w2.out.frozen 0
      have y12 := AS_w2.out.frozen 1
      have y22 := AS_w2.out.lt
      have y32 : w2.cell? ⟨sb, 0, none⟩ = some (.pointer none) := by rw [AS_w2.out.cell]; rfl
      have y42 : w2.cell? ⟨sb, 1, none⟩ = some (.pointer none) := by rw [AS_w2.out.cell]; rfl
      clear f2 s2 b2 BX1 A0_1 AS_1 F1_1
      go_wp2_with fail
      obtain ⟨V2, hV⟩ : ∃ V, V = (w2.setCell ⟨sb, 0, none⟩ (.pointer (some ⟨w2.heap.size, 0, none⟩))).alloc (.cells #[.nilIface, .int .i32 0, .slice a2 j2 cp2, .int .i32 0, .int .i32 0, .int .i32 0] 131) := ⟨_, rfl⟩
      rw [← hV]
      have BX2 := Lib.hid (show Below w.heap.size w V2 from by rw [hV]; exact (BW2.out.setCell (by simp; omega) _).alloc (by simp [World.setCell]; omega) _)
      have A0_2 := Lib.hid (show At V2 w.heap.size 33 #[.nilIface, .int .i32 0] from by rw [hV]; exact (A0_w2.out.far (by simp; omega) _).alloc _)
      have AS_2 := Lib.hid (show At V2 sb 129 #[.pointer (some ⟨w2.heap.size, 0, none⟩), .pointer none, .slice a1 j1 cp1, .int .i32 0, .int .i32 0] from by rw [hV]; exact (AS_w2.out.set 0 _).alloc _)
      have AC_2 := Lib.hid (show At V2 w2.heap.size 131 #[.nilIface, .int .i32 0, .slice a2 j2 cp2, .int .i32 0, .int .i32 0, .int .i32 0] from by rw [hV]; exact atNew (by simp only [setSize]) _ _)
      have KV : ∀ q, q < w2.heap.size → q ≠ sb → V2.heap[q]? = w2.heap[q]? := fun q hq hn => by rw [hV, Below.heap_alloc _ _ q (by simpa [World.setCell] using hq), Below.heap_setCell _ _ _ q (by simpa using hn)]
      have zv2 : V2.heap.size = w2.heap.size + 1 := by rw [hV]; simp [World.setCell]
      have F1_2 := Lib.hid (F1_w2.out.keep (w' := V2) (by omega) (fun q hq => KV q (by have := SB1.out q hq; omega) (by have := SB1.out q hq; omega)))
      have F2_2 := Lib.hid (F2_w2.out.keep (w' := V2) (by omega) (fun q hq => KV q (SB2.out q hq).2 (by have := SB2.out q hq; omega)))
      obtain ⟨cb, hcb⟩ : ∃ c, c = w2.heap.size := ⟨_, rfl⟩
      have y52 : sb < cb := by omega
      rw [← hcb] at AS_2 AC_2 SB2 zv2 zw2 ⊢
      clear hV hcb KV F1_w2 F2_w2 A0_w2 AS_w2 BW2 x02 x12 x22 x32 x42 y02 y12 y22 y32 y42
      refine (lst base n cap _ zs hn m ih N3 (by omega) p2 V2 (by omega) (by omega) (HO.out.keep (BX2.out.mono hB)) (Nat.le_trans hB BX2.out.size)).mono ?_
      rintro e w3 ⟨a3, j3, cp3, p3, k3, S3, rfl, f3, s3, pa3, pb3, kc3, b3⟩
      have zw3 := b3.size
      have BW3 := Lib.hid (show Below w.heap.size w w3 from BX2.out.trans (b3.mono (by omega)))
      have A0_w3 := Lib.hid (A0_2.out.below b3 (by omega))
      have AS_w3 := Lib.hid (AS_2.out.below b3 (by omega))
      have F1_w3 := Lib.hid (F1_2.out.keep b3.size (fun q hq => b3.block q (by have := (SB1.out q hq).2; omega)))
      have SB3 := Lib.hid (show ∀ q, S3 q → sb + 1 ≤ q ∧ q < w3.heap.size from fun q hq => ⟨by have := s3 q hq; omega, (f3.1 q hq).2⟩)
      have F3_w3 := Lib.hid f3
      have x03 : w3.cell? ⟨w.heap.size, 0, none⟩ = some .nilIface := by rw [A0_w3.out.cell]; rfl
      have x13 : w3.cell? ⟨w.heap.size, 1, none⟩ = some (.int .i32 0) := by rw [A0_w3.out.cell]; rfl
      have x23 := A0_w3.out.frozen 0
      have x33 := A0_w3.out.frozen 1
      have x43 := A0_w3.out.lt
      have y03 := AS_w3.out.frozen 0
      have y13 := AS_w3.out.frozen 1
      have y23 := AS_w3.out.lt
      have AC_w3 := Lib.hid (AC_2.out.below b3 (by omega))
      have F2_w3 := Lib.hid (F2_2.out.keep b3.size (fun q hq => b3.block q (by have := (SB2.out q hq).2; omega)))
      have SB3' := Lib.hid (show ∀ q, S3 q → cb + 1 ≤ q ∧ q < w3.heap.size from fun q hq => ⟨by have := s3 q hq; omega, (SB3.out q hq).2⟩)
      clear SB3
      have SB3 := Lib.hid SB3'.out
      clear SB3'
      have y33 : w3.cell? ⟨sb, 0, none⟩ = some (.pointer (some ⟨cb, 0, none⟩)) := by rw [AS_w3.out.cell]; rfl
      have y43 : w3.cell? ⟨sb, 1, none⟩ = some (.pointer none) := by rw [AS_w3.out.cell]; rfl
      clear f3 s3 b3 BX2 A0_2 AS_2 F1_2 F2_2 AC_2
      have END := Lib.hid (show ∀ u0 u1, DSP base n p w (.returned (.tuple #[.agg #[.iface 125 (.pointer (some ⟨sb, 0, none⟩)), .int .i32 0], .int .i64 p3, .int .i64 ((k1 + k2 + k3 : Nat) : Int)])) ((((w3.setCell ⟨sb, 1, none⟩ (.pointer (some ⟨w3.heap.size, 0, none⟩))).setCell ⟨w.heap.size, 0, none⟩ u0).setCell ⟨w.heap.size, 1, none⟩ u1).alloc (.cells #[.slice a3 j3 cp3, .int .i32 0, .int .i32 0] 133)) from fun u0 u1 => by
        refine endT (k := decide (0 < k1) || decide (0 < k2) || decide (0 < k3)) (S := fun q => S1 q ∨ S2 q ∨ S3 q ∨ q = cb) (cs := #[.pointer (some ⟨cb, 0, none⟩), .pointer none, .slice a1 j1 cp1, .int .i32 0, .int .i32 0]) _ hB rfl BW3.out (by omega) AS_w3.out (by omega) (fun q hq => ?_) (fun F hAs hAn hk hlt => ?_) (by rw [add_dec, add_dec]) (by omega) (by omega) (fun _ => by omega) (by omega) u0 u1
        · rcases hq with hq | hq | hq | rfl
          · have := SB1.out q hq; omega
          · have := SB2.out q hq; omega
          · have := SB3.out q hq; omega
          · omega
        · have bnd : ∀ q, ((S1 q ∨ S2 q ∨ S3 q ∨ q = cb) ∨ q = sb ∨ q = w3.heap.size) → base ≤ q ∧ q < F.heap.size := fun q hq => by
            rcases hq with (hq | hq | hq | rfl) | rfl | rfl
            · have := SB1.out q hq; omega
            · have := SB2.out q hq; omega
            · have := SB3.out q hq; omega
            · omega
            · omega
            · omega
          have hAc : At F cb 131 #[.nilIface, .int .i32 0, .slice a2 j2 cp2, .int .i32 0, .int .i32 0, .int .i32 0] := (hk cb (.inr (.inr (.inr rfl)))).trans AC_w3.out
          exact skTry11 sb cb w3.heap.size 0 bnd (.inr (.inl rfl)) (.inl (.inr (.inr (.inr rfl)))) (.inr (.inr rfl)) (by rw [hAs.cell]; rfl) ((F1_w3.out.keep (by omega) (fun q hq => hk q (.inl hq))).more (fun q hq => .inl (.inl hq)) bnd) (by rw [hAc.cell]; rfl) ((F2_w3.out.keep (by omega) (fun q hq => hk q (.inr (.inl hq)))).more (fun q hq => .inl (.inr (.inl hq))) bnd) (by rw [hAn.cell]; rfl) ((F3_w3.out.keep (by omega) (fun q hq => hk q (.inr (.inr (.inl hq))))).more (fun q hq => .inl (.inr (.inr (.inl hq)))) bnd) (by rw [hAs.cell]; rfl) (by rw [hAs.cell]; rfl))
      clear BW3 A0_w3 AS_w3 F1_w3 F2_w3 SB2 F3_w3 SB3
      go_wp2_with fail
      exact bodyPost_ret (v := .tuple #[.agg #[.iface 125 (.pointer (some ⟨sb, 0, none⟩)), .int .i32 0], .int .i64 p3, .int .i64 ((k1 + k2 + k3 : Nat) : Int)]) (by simp [results, Try.results13, go_sem, *]) rfl (END.out _ _)

set_option maxRecDepth 100000 in
set_option maxHeartbeats 8000000 in
theorem ds11 (base n cap B off : Nat) (zs : List Int) (hn : n ≤ 4096) (hz : ∀ i, 0 ≤ zs.getD i 0 ∧ zs.getD i 0 ≤ 255) (m : Nat) (ih : ∀ (p : Nat) (w : World), n - p ≤ m → p ≤ n → Ops base w (some ⟨B, off, none⟩) n zs → base ≤ w.heap.size → Calls Try.prog 13 #[.slice (some ⟨B, off, none⟩) n cap, .int .i64 p] w (DSP base n p w)) (p : Nat) (w : World) (hm : n - p ≤ m + 1) (hpn : p < n) (hO : Ops base w (some ⟨B, off, none⟩) n zs) (hB : base ≤ w.heap.size) (z : Int) (c0 : w.cell? ⟨B, off + p, none⟩ = some (.int .u8 z)) (z0 : 0 ≤ z) (z1 : z ≤ 255) (hk : z % 16 = 11) :
    Calls Try.prog 13 #[.slice (some ⟨B, off, none⟩) n cap, .int .i64 p] w (DSP base n p w) := by
  have HO := Lib.hid hO
  have HZ := Lib.hid hz
  have lB : B < w.heap.size := World.block_lt_of_cell? _ _ c0
  have p0 : (0 : Int) ≤ (p : Int) := Int.natCast_nonneg _
  have p1 : (p : Int) < (n : Int) := by omega
  clear hO hz
  go_enter Try.func13, Try.ntmps13
  go_wp2_with fail
  refine (nextAny base _ n cap (p + 1) zs _ (by omega) (by omega) HZ.out (HO.out.keep ((Below.refl base w).alloc hB _))).mono ?_
  rintro e w' ⟨f, pp, rfl, ⟨hf0, hf1, hpp, hpn1⟩, rfl⟩
  rcases and1 f hf0 hf1 with hb | hb
  · go_wp2_with fail
    obtain ⟨V0, hV⟩ : ∃ V, V = ((w.alloc (.cells #[.nilIface, .int .i32 0] 33)).alloc (.cells #[.nilIface, .int .i32 0] 33)).alloc (.cells #[.nilIface, .int .i32 0] 33) := ⟨_, rfl⟩
    rw [← hV]
    have BX0 := Lib.hid (show Below w.heap.size w V0 from by rw [hV]; exact (by repeat (first | with_reducible exact Below.refl _ _ | (with_reducible refine Below.alloc ?_ (by simp; try omega) _))))
    have A0_0 := Lib.hid (show At V0 (w.heap.size) 33 #[.nilIface, .int .i32 0] from by rw [hV]; exact (((atNew (by simp) 33 _).alloc _).alloc _))
    have A1_0 := Lib.hid (show At V0 (w.heap.size + 1) 33 #[.nilIface, .int .i32 0] from by rw [hV]; exact ((atNew (by simp) 33 _).alloc _))
    have A2_0 := Lib.hid (show At V0 (w.heap.size + 1 + 1) 33 #[.nilIface, .int .i32 0] from by rw [hV]; exact (atNew (by simp) 33 _))
    have zz0 : w.heap.size + 3 ≤ V0.heap.size := by rw [hV]; simp
    clear hV
    refine (ih pp V0 (by omega) (by omega) (HO.out.keep (BX0.out.mono hB)) (Nat.le_trans hB BX0.out.size)).mono ?_
    rintro e w1 ⟨d1, l1, p1, k1, S1, rfl, ⟨t1, q1, rfl⟩, f1, s1, pa1, pb1, pc1, kc1, b1⟩
    have zw1 := b1.size
    have BW1 := Lib.hid (show Below w.heap.size w w1 from BX0.out.trans (b1.mono (by omega)))
    have A0_w1 := Lib.hid (A0_0.out.below b1 (by omega))
    have A1_w1 := Lib.hid (A1_0.out.below b1 (by omega))
    have A2_w1 := Lib.hid (A2_0.out.below b1 (by omega))
    have sb1 : ∀ q, S1 q → w.heap.size + 3 ≤ q ∧ q < w1.heap.size := fun q hq => ⟨by have := s1 q hq; omega, (f1.1 q hq).2⟩
    have SB1_w1 := Lib.hid sb1
    have F1_w1 := Lib.hid f1
    clear BX0 A0_0 A1_0 A2_0
    clear f1 s1 b1 sb1
    have r00w1 : w1.cell? ⟨w.heap.size, 0, none⟩ = some (.nilIface) := by rw [A0_w1.out.cell]; rfl
    have r01w1 : w1.cell? ⟨w.heap.size, 1, none⟩ = some (.int .i32 0) := by rw [A0_w1.out.cell]; rfl
    have r02w1 := A0_w1.out.frozen 0
    have r03w1 := A0_w1.out.frozen 1
    have r04w1 := A0_w1.out.lt
    have r10w1 : w1.cell? ⟨w.heap.size + 1, 0, none⟩ = some (.nilIface) := by rw [A1_w1.out.cell]; rfl
    have r11w1 : w1.cell? ⟨w.heap.size + 1, 1, none⟩ = some (.int .i32 0) := by rw [A1_w1.out.cell]; rfl
    have r12w1 := A1_w1.out.frozen 0
    have r13w1 := A1_w1.out.frozen 1
    have r14w1 := A1_w1.out.lt
    have r20w1 : w1.cell? ⟨w.heap.size + 1 + 1, 0, none⟩ = some (.nilIface) := by rw [A2_w1.out.cell]; rfl
    have r21w1 : w1.cell? ⟨w.heap.size + 1 + 1, 1, none⟩ = some (.int .i32 0) := by rw [A2_w1.out.cell]; rfl
    have r22w1 := A2_w1.out.frozen 0
    have r23w1 := A2_w1.out.frozen 1
    have r24w1 := A2_w1.out.lt
    have END := Lib.hid (show ∀ u0 u1, DSP base n p w (.returned (.tuple #[.agg #[.iface 134 (.pointer (some ⟨w1.heap.size, 0, none⟩)), .int .i32 0], .int .i64 p1, .int .i64 ((k1 : Nat) : Int)])) (((((w1.setCell ⟨w.heap.size + 1, 0, none⟩ (.iface t1 (.pointer (some ⟨q1, 0, none⟩)))).setCell ⟨w.heap.size + 1, 1, none⟩ (.int .i32 l1)).setCell ⟨w.heap.size, 0, none⟩ u0).setCell ⟨w.heap.size, 1, none⟩ u1).alloc (.cells #[.nilIface, .int .i32 0, .iface t1 (.pointer (some ⟨q1, 0, none⟩)), .int .i32 l1, .nilIface, .int .i32 0, .bool false, .bool false] 136)) from fun u0 u1 => by
        have zk : ((w1.setCell ⟨w.heap.size + 1, 0, none⟩ (.iface t1 (.pointer (some ⟨q1, 0, none⟩)))).setCell ⟨w.heap.size + 1, 1, none⟩ (.int .i32 l1)).heap.size = w1.heap.size := by simp only [setSize]
        have h := endN (base := base) (n := n) (p := p) (p' := p1) (kk := k1) (r := w.heap.size) (k := decide (0 < k1)) (w := w) (X := ((w1.setCell ⟨w.heap.size + 1, 0, none⟩ (.iface t1 (.pointer (some ⟨q1, 0, none⟩)))).setCell ⟨w.heap.size + 1, 1, none⟩ (.int .i32 l1))) (S := fun q => S1 q) (T := 136) (bT := 134) (cs := #[.nilIface, .int .i32 0, .iface t1 (.pointer (some ⟨q1, 0, none⟩)), .int .i32 l1, .nilIface, .int .i32 0, .bool false, .bool false]) hB rfl (s2below BW1.out (by omega) _ _) (by rw [zk]; omega) (fun q hq => ?_) (fun W hA hk hlt => ?_) rfl (by omega) (by omega) (fun _ => by omega) (by omega) u0 u1
        · rw [zk] at h; exact h
        · rcases hq with hq
          · have := SB1_w1.out q hq; rw [zk]; omega
        · rw [zk] at hlt
          have bnd : ∀ q, ((S1 q) ∨ q = ((w1.setCell ⟨w.heap.size + 1, 0, none⟩ (.iface t1 (.pointer (some ⟨q1, 0, none⟩)))).setCell ⟨w.heap.size + 1, 1, none⟩ (.int .i32 l1)).heap.size) → base ≤ q ∧ q < W.heap.size := fun q hq => by
            rw [zk] at hq
            rcases hq with hq | rfl
            · have := SB1_w1.out q hq; omega
            · omega
          exact skIf1 _ 0 bnd (.inr rfl) (by rw [hA.cell]; rfl) (by rw [hA.cell]; rfl) ((F1_w1.out.keep (by omega) (fun q hq => (hk q hq).trans (s2far (by have := (SB1_w1.out q hq).1; omega) _ _))).more (fun q hq => .inl hq) bnd) (by rw [hA.cell]; rfl))
    clear BW1 A0_w1 A1_w1 A2_w1 F1_w1 SB1_w1
    go_wp2_with fail
    exact bodyPost_ret (v := .tuple #[.agg #[.iface 134 (.pointer (some ⟨w1.heap.size, 0, none⟩)), .int .i32 0], .int .i64 p1, .int .i64 ((k1 : Nat) : Int)]) (by simp [results, Try.results13, go_sem, *]) rfl (END.out _ _)
  · go_wp2_with fail
    obtain ⟨V0, hV⟩ : ∃ V, V = ((w.alloc (.cells #[.nilIface, .int .i32 0] 33)).alloc (.cells #[.nilIface, .int .i32 0] 33)).alloc (.cells #[.nilIface, .int .i32 0] 33) := ⟨_, rfl⟩
    rw [← hV]
    have BX0 := Lib.hid (show Below w.heap.size w V0 from by rw [hV]; exact (by repeat (first | with_reducible exact Below.refl _ _ | (with_reducible refine Below.alloc ?_ (by simp; try omega) _))))
    have A0_0 := Lib.hid (show At V0 (w.heap.size) 33 #[.nilIface, .int .i32 0] from by rw [hV]; exact (((atNew (by simp) 33 _).alloc _).alloc _))
    have A1_0 := Lib.hid (show At V0 (w.heap.size + 1) 33 #[.nilIface, .int .i32 0] from by rw [hV]; exact ((atNew (by simp) 33 _).alloc _))
    have A2_0 := Lib.hid (show At V0 (w.heap.size + 1 + 1) 33 #[.nilIface, .int .i32 0] from by rw [hV]; exact (atNew (by simp) 33 _))
    have zz0 : w.heap.size + 3 ≤ V0.heap.size := by rw [hV]; simp
    clear hV
    refine (ih pp V0 (by omega) (by omega) (HO.out.keep (BX0.out.mono hB)) (Nat.le_trans hB BX0.out.size)).mono ?_
    rintro e w1 ⟨d1, l1, p1, k1, S1, rfl, ⟨t1, q1, rfl⟩, f1, s1, pa1, pb1, pc1, kc1, b1⟩
    have zw1 := b1.size
    have BW1 := Lib.hid (show Below w.heap.size w w1 from BX0.out.trans (b1.mono (by omega)))
    have A0_w1 := Lib.hid (A0_0.out.below b1 (by omega))
    have A1_w1 := Lib.hid (A1_0.out.below b1 (by omega))
    have A2_w1 := Lib.hid (A2_0.out.below b1 (by omega))
    have sb1 : ∀ q, S1 q → w.heap.size + 3 ≤ q ∧ q < w1.heap.size := fun q hq => ⟨by have := s1 q hq; omega, (f1.1 q hq).2⟩
    have SB1_w1 := Lib.hid sb1
    have F1_w1 := Lib.hid f1
    clear BX0 A0_0 A1_0 A2_0
    clear f1 s1 b1 sb1
    have r00w1 : w1.cell? ⟨w.heap.size, 0, none⟩ = some (.nilIface) := by rw [A0_w1.out.cell]; rfl
    have r01w1 : w1.cell? ⟨w.heap.size, 1, none⟩ = some (.int .i32 0) := by rw [A0_w1.out.cell]; rfl
    have r02w1 := A0_w1.out.frozen 0
    have r03w1 := A0_w1.out.frozen 1
    have r04w1 := A0_w1.out.lt
    have r10w1 : w1.cell? ⟨w.heap.size + 1, 0, none⟩ = some (.nilIface) := by rw [A1_w1.out.cell]; rfl
    have r11w1 : w1.cell? ⟨w.heap.size + 1, 1, none⟩ = some (.int .i32 0) := by rw [A1_w1.out.cell]; rfl
    have r12w1 := A1_w1.out.frozen 0
    have r13w1 := A1_w1.out.frozen 1
    have r14w1 := A1_w1.out.lt
    have r20w1 : w1.cell? ⟨w.heap.size + 1 + 1, 0, none⟩ = some (.nilIface) := by rw [A2_w1.out.cell]; rfl
    have r21w1 : w1.cell? ⟨w.heap.size + 1 + 1, 1, none⟩ = some (.int .i32 0) := by rw [A2_w1.out.cell]; rfl
    have r22w1 := A2_w1.out.frozen 0
    have r23w1 := A2_w1.out.frozen 1
    have r24w1 := A2_w1.out.lt
    go_wp2_with fail
    obtain ⟨V1, hV⟩ : ∃ V, V = (w1.setCell ⟨w.heap.size + 1, 0, none⟩ (.iface t1 (.pointer (some ⟨q1, 0, none⟩)))).setCell ⟨w.heap.size + 1, 1, none⟩ (.int .i32 l1) := ⟨_, rfl⟩
    rw [← hV]
    have zx1 : V1.heap.size = w1.heap.size := by rw [hV]; simp only [setSize]
    have BX1 := Lib.hid (show Below w.heap.size w V1 from by rw [hV]; exact s2below BW1.out (by omega) _ _)
    have A0_1 := Lib.hid (show At V1 (w.heap.size) 33 #[.nilIface, .int .i32 0] from by rw [hV]; exact s2atF (by omega) A0_w1.out _ _)
    have A1_1 := Lib.hid (show At V1 (w.heap.size + 1) 33 #[.iface t1 (.pointer (some ⟨q1, 0, none⟩)), .int .i32 l1] from by rw [hV]; exact s2at A1_w1.out _ _)
    have A2_1 := Lib.hid (show At V1 (w.heap.size + 1 + 1) 33 #[.nilIface, .int .i32 0] from by rw [hV]; exact s2atF (by omega) A2_w1.out _ _)
    have F1_1 := Lib.hid (F1_w1.out.keep (by omega) (fun q hq => (show V1.heap[q]? = w1.heap[q]? from by rw [hV]; exact s2far (by have := (SB1_w1.out q hq).1; omega) _ _)))
    have SB1_1 := Lib.hid (show ∀ q, S1 q → w.heap.size + 3 ≤ q ∧ q < V1.heap.size from fun q hq => ⟨(SB1_w1.out q hq).1, by rw [zx1]; exact (SB1_w1.out q hq).2⟩)
    have zz1 : w.heap.size + 3 ≤ V1.heap.size := by omega
    have zy1 : w1.heap.size ≤ V1.heap.size := by omega
    clear hV zx1 BW1 A0_w1 A1_w1 A2_w1 F1_w1 SB1_w1
    refine (ih p1 V1 (by omega) (by omega) (HO.out.keep (BX1.out.mono hB)) (Nat.le_trans hB BX1.out.size)).mono ?_
    rintro e w2 ⟨d2, l2, p2, k2, S2, rfl, ⟨t2, q2, rfl⟩, f2, s2, pa2, pb2, pc2, kc2, b2⟩
    have zw2 := b2.size
    have BW2 := Lib.hid (show Below w.heap.size w w2 from BX1.out.trans (b2.mono (by omega)))
    have A0_w2 := Lib.hid (A0_1.out.below b2 (by omega))
    have A1_w2 := Lib.hid (A1_1.out.below b2 (by omega))
    have A2_w2 := Lib.hid (A2_1.out.below b2 (by omega))
    have sb2 : ∀ q, S2 q → w.heap.size + 3 ≤ q ∧ q < w2.heap.size := fun q hq => ⟨by have := s2 q hq; omega, (f2.1 q hq).2⟩
    have SB2_w2 := Lib.hid sb2
    have F2_w2 := Lib.hid f2
    have F1_w2 := Lib.hid (F1_1.out.keep b2.size (fun q hq => b2.block q (SB1_1.out q hq).2))
    have SB1_w2 := Lib.hid (show ∀ q, S1 q → w.heap.size + 3 ≤ q ∧ q < w2.heap.size from fun q hq => ⟨(SB1_1.out q hq).1, Nat.lt_of_lt_of_le (SB1_1.out q hq).2 zw2⟩)
    clear r00w1 r01w1 r02w1 r03w1 r04w1 r10w1 r11w1 r12w1 r13w1 r14w1 r20w1 r21w1 r22w1 r23w1 r24w1
    clear BX1 A0_1 A1_1 A2_1 F1_1 SB1_1
    clear f2 s2 b2 sb2
    have r00w2 : w2.cell? ⟨w.heap.size, 0, none⟩ = some (.nilIface) := by rw [A0_w2.out.cell]; rfl
    have r01w2 : w2.cell? ⟨w.heap.size, 1, none⟩ = some (.int .i32 0) := by rw [A0_w2.out.cell]; rfl
    have r02w2 := A0_w2.out.frozen 0
    have r03w2 := A0_w2.out.frozen 1
    have r04w2 := A0_w2.out.lt
    have r10w2 : w2.cell? ⟨w.heap.size + 1, 0, none⟩ = some (.iface t1 (.pointer (some ⟨q1, 0, none⟩))) := by rw [A1_w2.out.cell]; rfl
    have r11w2 : w2.cell? ⟨w.heap.size + 1, 1, none⟩ = some (.int .i32 l1) := by rw [A1_w2.out.cell]; rfl
    have r12w2 := A1_w2.out.frozen 0
    have r13w2 := A1_w2.out.frozen 1
    have r14w2 := A1_w2.out.lt
    have r20w2 : w2.cell? ⟨w.heap.size + 1 + 1, 0, none⟩ = some (.nilIface) := by rw [A2_w2.out.cell]; rfl
    have r21w2 : w2.cell? ⟨w.heap.size + 1 + 1, 1, none⟩ = some (.int .i32 0) := by rw [A2_w2.out.cell]; rfl
    have r22w2 := A2_w2.out.frozen 0
    have r23w2 := A2_w2.out.frozen 1
    have r24w2 := A2_w2.out.lt
    have END := Lib.hid (show ∀ u0 u1, DSP base n p w (.returned (.tuple #[.agg #[.iface 134 (.pointer (some ⟨w2.heap.size, 0, none⟩)), .int .i32 0], .int .i64 p2, .int .i64 ((k1 + k2 : Nat) : Int)])) (((((w2.setCell ⟨w.heap.size + 1 + 1, 0, none⟩ (.iface t2 (.pointer (some ⟨q2, 0, none⟩)))).setCell ⟨w.heap.size + 1 + 1, 1, none⟩ (.int .i32 l2)).setCell ⟨w.heap.size, 0, none⟩ u0).setCell ⟨w.heap.size, 1, none⟩ u1).alloc (.cells #[.nilIface, .int .i32 0, .iface t1 (.pointer (some ⟨q1, 0, none⟩)), .int .i32 l1, .iface t2 (.pointer (some ⟨q2, 0, none⟩)), .int .i32 l2, .bool false, .bool false] 136)) from fun u0 u1 => by
        have zk : ((w2.setCell ⟨w.heap.size + 1 + 1, 0, none⟩ (.iface t2 (.pointer (some ⟨q2, 0, none⟩)))).setCell ⟨w.heap.size + 1 + 1, 1, none⟩ (.int .i32 l2)).heap.size = w2.heap.size := by simp only [setSize]
        have h := endN (base := base) (n := n) (p := p) (p' := p2) (kk := k1 + k2) (r := w.heap.size) (k := decide (0 < k1) || decide (0 < k2)) (w := w) (X := ((w2.setCell ⟨w.heap.size + 1 + 1, 0, none⟩ (.iface t2 (.pointer (some ⟨q2, 0, none⟩)))).setCell ⟨w.heap.size + 1 + 1, 1, none⟩ (.int .i32 l2))) (S := fun q => S1 q ∨ S2 q) (T := 136) (bT := 134) (cs := #[.nilIface, .int .i32 0, .iface t1 (.pointer (some ⟨q1, 0, none⟩)), .int .i32 l1, .iface t2 (.pointer (some ⟨q2, 0, none⟩)), .int .i32 l2, .bool false, .bool false]) hB rfl (s2below BW2.out (by omega) _ _) (by rw [zk]; omega) (fun q hq => ?_) (fun W hA hk hlt => ?_) (add_dec _ _) (by omega) (by omega) (fun _ => by omega) (by omega) u0 u1
        · rw [zk] at h; exact h
        · rcases hq with hq | hq
          · have := SB1_w2.out q hq; rw [zk]; omega
          · have := SB2_w2.out q hq; rw [zk]; omega
        · rw [zk] at hlt
          have bnd : ∀ q, ((S1 q ∨ S2 q) ∨ q = ((w2.setCell ⟨w.heap.size + 1 + 1, 0, none⟩ (.iface t2 (.pointer (some ⟨q2, 0, none⟩)))).setCell ⟨w.heap.size + 1 + 1, 1, none⟩ (.int .i32 l2)).heap.size) → base ≤ q ∧ q < W.heap.size := fun q hq => by
            rw [zk] at hq
            rcases hq with (hq | hq) | rfl
            · have := SB1_w2.out q hq; omega
            · have := SB2_w2.out q hq; omega
            · omega
          exact skIf2 _ 0 bnd (.inr rfl) (by rw [hA.cell]; rfl) (by rw [hA.cell]; rfl) ((F1_w2.out.keep (by omega) (fun q hq => (hk q (.inl hq)).trans (s2far (by have := (SB1_w2.out q hq).1; omega) _ _))).more (fun q hq => .inl (.inl hq)) bnd) (by rw [hA.cell]; rfl) (by rw [hA.cell]; rfl) ((F2_w2.out.keep (by omega) (fun q hq => (hk q (.inr hq)).trans (s2far (by have := (SB2_w2.out q hq).1; omega) _ _))).more (fun q hq => .inl (.inr hq)) bnd) )
    clear BW2 A0_w2 A1_w2 A2_w2 F1_w2 SB1_w2 F2_w2 SB2_w2
    go_wp2_with fail
    exact bodyPost_ret (v := .tuple #[.agg #[.iface 134 (.pointer (some ⟨w2.heap.size, 0, none⟩)), .int .i32 0], .int .i64 p2, .int .i64 ((k1 + k2 : Nat) : Int)]) (by simp [results, Try.results13, go_sem, *]) rfl (END.out _ _)

set_option maxRecDepth 100000 in
set_option maxHeartbeats 8000000 in
theorem ds12 (base n cap B off : Nat) (zs : List Int) (hn : n ≤ 4096) (hz : ∀ i, 0 ≤ zs.getD i 0 ∧ zs.getD i 0 ≤ 255) (m : Nat) (ih : ∀ (p : Nat) (w : World), n - p ≤ m → p ≤ n → Ops base w (some ⟨B, off, none⟩) n zs → base ≤ w.heap.size → Calls Try.prog 13 #[.slice (some ⟨B, off, none⟩) n cap, .int .i64 p] w (DSP base n p w)) (p : Nat) (w : World) (hm : n - p ≤ m + 1) (hpn : p < n) (hO : Ops base w (some ⟨B, off, none⟩) n zs) (hB : base ≤ w.heap.size) (z : Int) (c0 : w.cell? ⟨B, off + p, none⟩ = some (.int .u8 z)) (z0 : 0 ≤ z) (z1 : z ≤ 255) (hk : z % 16 = 12) :
    Calls Try.prog 13 #[.slice (some ⟨B, off, none⟩) n cap, .int .i64 p] w (DSP base n p w) := by
  have HO := Lib.hid hO
  have HZ := Lib.hid hz
  have lB : B < w.heap.size := World.block_lt_of_cell? _ _ c0
  have p0 : (0 : Int) ≤ (p : Int) := Int.natCast_nonneg _
  have p1 : (p : Int) < (n : Int) := by omega
  clear hO hz
  go_enter Try.func13, Try.ntmps13
  go_wp2_with fail
  refine (nextAny base _ n cap (p + 1) zs _ (by omega) (by omega) HZ.out (HO.out.keep ((Below.refl base w).alloc hB _))).mono ?_
  rintro e w' ⟨f, pp, rfl, ⟨hf0, hf1, hpp, hpn1⟩, rfl⟩
  rcases and1 f hf0 hf1 with hb | hb
  · go_wp2_with fail
    obtain ⟨V0, hV⟩ : ∃ V, V = (w.alloc (.cells #[.nilIface, .int .i32 0] 33)).alloc (.cells #[.nilIface, .int .i32 0] 33) := ⟨_, rfl⟩
    rw [← hV]
    have BX0 := Lib.hid (show Below w.heap.size w V0 from by rw [hV]; exact (by repeat (first | with_reducible exact Below.refl _ _ | (with_reducible refine Below.alloc ?_ (by simp; try omega) _))))
    have A0_0 := Lib.hid (show At V0 (w.heap.size) 33 #[.nilIface, .int .i32 0] from by rw [hV]; exact ((atNew (by simp) 33 _).alloc _))
    have A1_0 := Lib.hid (show At V0 (w.heap.size + 1) 33 #[.nilIface, .int .i32 0] from by rw [hV]; exact (atNew (by simp) 33 _))
    have zz0 : w.heap.size + 2 ≤ V0.heap.size := by rw [hV]; simp
    clear hV
    refine (ih pp V0 (by omega) (by omega) (HO.out.keep (BX0.out.mono hB)) (Nat.le_trans hB BX0.out.size)).mono ?_
    rintro e w1 ⟨d1, l1, p1, k1, S1, rfl, ⟨t1, q1, rfl⟩, f1, s1, pa1, pb1, pc1, kc1, b1⟩
    have zw1 := b1.size
    have BW1 := Lib.hid (show Below w.heap.size w w1 from BX0.out.trans (b1.mono (by omega)))
    have A0_w1 := Lib.hid (A0_0.out.below b1 (by omega))
    have A1_w1 := Lib.hid (A1_0.out.below b1 (by omega))
    have sb1 : ∀ q, S1 q → w.heap.size + 2 ≤ q ∧ q < w1.heap.size := fun q hq => ⟨by have := s1 q hq; omega, (f1.1 q hq).2⟩
    have SB1_w1 := Lib.hid sb1
    have F1_w1 := Lib.hid f1
    clear BX0 A0_0 A1_0
    clear f1 s1 b1 sb1
    have r00w1 : w1.cell? ⟨w.heap.size, 0, none⟩ = some (.nilIface) := by rw [A0_w1.out.cell]; rfl
    have r01w1 : w1.cell? ⟨w.heap.size, 1, none⟩ = some (.int .i32 0) := by rw [A0_w1.out.cell]; rfl
    have r02w1 := A0_w1.out.frozen 0
    have r03w1 := A0_w1.out.frozen 1
    have r04w1 := A0_w1.out.lt
    have r10w1 : w1.cell? ⟨w.heap.size + 1, 0, none⟩ = some (.nilIface) := by rw [A1_w1.out.cell]; rfl
    have r11w1 : w1.cell? ⟨w.heap.size + 1, 1, none⟩ = some (.int .i32 0) := by rw [A1_w1.out.cell]; rfl
    have r12w1 := A1_w1.out.frozen 0
    have r13w1 := A1_w1.out.frozen 1
    have r14w1 := A1_w1.out.lt
    have END := Lib.hid (show ∀ u0 u1, DSP base n p w (.returned (.tuple #[.agg #[.iface 140 (.pointer (some ⟨w1.heap.size, 0, none⟩)), .int .i32 0], .int .i64 p1, .int .i64 ((k1 : Nat) : Int)])) (((((w1.setCell ⟨w.heap.size + 1, 0, none⟩ (.iface t1 (.pointer (some ⟨q1, 0, none⟩)))).setCell ⟨w.heap.size + 1, 1, none⟩ (.int .i32 l1)).setCell ⟨w.heap.size, 0, none⟩ u0).setCell ⟨w.heap.size, 1, none⟩ u1).alloc (.cells #[.nilIface, .int .i32 0, .iface t1 (.pointer (some ⟨q1, 0, none⟩)), .int .i32 l1, .bool false] 142)) from fun u0 u1 => by
        have zk : ((w1.setCell ⟨w.heap.size + 1, 0, none⟩ (.iface t1 (.pointer (some ⟨q1, 0, none⟩)))).setCell ⟨w.heap.size + 1, 1, none⟩ (.int .i32 l1)).heap.size = w1.heap.size := by simp only [setSize]
        have h := endN (base := base) (n := n) (p := p) (p' := p1) (kk := k1) (r := w.heap.size) (k := decide (0 < k1)) (w := w) (X := ((w1.setCell ⟨w.heap.size + 1, 0, none⟩ (.iface t1 (.pointer (some ⟨q1, 0, none⟩)))).setCell ⟨w.heap.size + 1, 1, none⟩ (.int .i32 l1))) (S := fun q => S1 q) (T := 142) (bT := 140) (cs := #[.nilIface, .int .i32 0, .iface t1 (.pointer (some ⟨q1, 0, none⟩)), .int .i32 l1, .bool false]) hB rfl (s2below BW1.out (by omega) _ _) (by rw [zk]; omega) (fun q hq => ?_) (fun W hA hk hlt => ?_) rfl (by omega) (by omega) (fun _ => by omega) (by omega) u0 u1
        · rw [zk] at h; exact h
        · rcases hq with hq
          · have := SB1_w1.out q hq; rw [zk]; omega
        · rw [zk] at hlt
          have bnd : ∀ q, ((S1 q) ∨ q = ((w1.setCell ⟨w.heap.size + 1, 0, none⟩ (.iface t1 (.pointer (some ⟨q1, 0, none⟩)))).setCell ⟨w.heap.size + 1, 1, none⟩ (.int .i32 l1)).heap.size) → base ≤ q ∧ q < W.heap.size := fun q hq => by
            rw [zk] at hq
            rcases hq with hq | rfl
            · have := SB1_w1.out q hq; omega
            · omega
          exact skWhile _ 0 bnd (.inr rfl) (by rw [hA.cell]; rfl) (by rw [hA.cell]; rfl) ((F1_w1.out.keep (by omega) (fun q hq => (hk q hq).trans (s2far (by have := (SB1_w1.out q hq).1; omega) _ _))).more (fun q hq => .inl hq) bnd) )
    clear BW1 A0_w1 A1_w1 F1_w1 SB1_w1
    go_wp2_with fail
    exact bodyPost_ret (v := .tuple #[.agg #[.iface 140 (.pointer (some ⟨w1.heap.size, 0, none⟩)), .int .i32 0], .int .i64 p1, .int .i64 ((k1 : Nat) : Int)]) (by simp [results, Try.results13, go_sem, *]) rfl (END.out _ _)
  · go_wp2_with fail
    obtain ⟨V0, hV⟩ : ∃ V, V = (w.alloc (.cells #[.nilIface, .int .i32 0] 33)).alloc (.cells #[.nilIface, .int .i32 0] 33) := ⟨_, rfl⟩
    rw [← hV]
    have BX0 := Lib.hid (show Below w.heap.size w V0 from by rw [hV]; exact (by repeat (first | with_reducible exact Below.refl _ _ | (with_reducible refine Below.alloc ?_ (by simp; try omega) _))))
    have A0_0 := Lib.hid (show At V0 (w.heap.size) 33 #[.nilIface, .int .i32 0] from by rw [hV]; exact ((atNew (by simp) 33 _).alloc _))
    have A1_0 := Lib.hid (show At V0 (w.heap.size + 1) 33 #[.nilIface, .int .i32 0] from by rw [hV]; exact (atNew (by simp) 33 _))
    have zz0 : w.heap.size + 2 ≤ V0.heap.size := by rw [hV]; simp
    clear hV
    refine (ih pp V0 (by omega) (by omega) (HO.out.keep (BX0.out.mono hB)) (Nat.le_trans hB BX0.out.size)).mono ?_
    rintro e w1 ⟨d1, l1, p1, k1, S1, rfl, ⟨t1, q1, rfl⟩, f1, s1, pa1, pb1, pc1, kc1, b1⟩
    have zw1 := b1.size
    have BW1 := Lib.hid (show Below w.heap.size w w1 from BX0.out.trans (b1.mono (by omega)))
    have A0_w1 := Lib.hid (A0_0.out.below b1 (by omega))
    have A1_w1 := Lib.hid (A1_0.out.below b1 (by omega))
    have sb1 : ∀ q, S1 q → w.heap.size + 2 ≤ q ∧ q < w1.heap.size := fun q hq => ⟨by have := s1 q hq; omega, (f1.1 q hq).2⟩
    have SB1_w1 := Lib.hid sb1
    have F1_w1 := Lib.hid f1
    clear BX0 A0_0 A1_0
    clear f1 s1 b1 sb1
    have r00w1 : w1.cell? ⟨w.heap.size, 0, none⟩ = some (.nilIface) := by rw [A0_w1.out.cell]; rfl
    have r01w1 : w1.cell? ⟨w.heap.size, 1, none⟩ = some (.int .i32 0) := by rw [A0_w1.out.cell]; rfl
    have r02w1 := A0_w1.out.frozen 0
    have r03w1 := A0_w1.out.frozen 1
    have r04w1 := A0_w1.out.lt
    have r10w1 : w1.cell? ⟨w.heap.size + 1, 0, none⟩ = some (.nilIface) := by rw [A1_w1.out.cell]; rfl
    have r11w1 : w1.cell? ⟨w.heap.size + 1, 1, none⟩ = some (.int .i32 0) := by rw [A1_w1.out.cell]; rfl
    have r12w1 := A1_w1.out.frozen 0
    have r13w1 := A1_w1.out.frozen 1
    have r14w1 := A1_w1.out.lt
    have END := Lib.hid (show ∀ u0 u1, DSP base n p w (.returned (.tuple #[.agg #[.iface 137 (.pointer (some ⟨w1.heap.size, 0, none⟩)), .int .i32 0], .int .i64 p1, .int .i64 ((k1 : Nat) : Int)])) (((((w1.setCell ⟨w.heap.size + 1, 0, none⟩ (.iface t1 (.pointer (some ⟨q1, 0, none⟩)))).setCell ⟨w.heap.size + 1, 1, none⟩ (.int .i32 l1)).setCell ⟨w.heap.size, 0, none⟩ u0).setCell ⟨w.heap.size, 1, none⟩ u1).alloc (.cells #[.iface t1 (.pointer (some ⟨q1, 0, none⟩)), .int .i32 l1, .nilIface, .int .i32 0] 139)) from fun u0 u1 => by
        have zk : ((w1.setCell ⟨w.heap.size + 1, 0, none⟩ (.iface t1 (.pointer (some ⟨q1, 0, none⟩)))).setCell ⟨w.heap.size + 1, 1, none⟩ (.int .i32 l1)).heap.size = w1.heap.size := by simp only [setSize]
        have h := endN (base := base) (n := n) (p := p) (p' := p1) (kk := k1) (r := w.heap.size) (k := decide (0 < k1)) (w := w) (X := ((w1.setCell ⟨w.heap.size + 1, 0, none⟩ (.iface t1 (.pointer (some ⟨q1, 0, none⟩)))).setCell ⟨w.heap.size + 1, 1, none⟩ (.int .i32 l1))) (S := fun q => S1 q) (T := 139) (bT := 137) (cs := #[.iface t1 (.pointer (some ⟨q1, 0, none⟩)), .int .i32 l1, .nilIface, .int .i32 0]) hB rfl (s2below BW1.out (by omega) _ _) (by rw [zk]; omega) (fun q hq => ?_) (fun W hA hk hlt => ?_) rfl (by omega) (by omega) (fun _ => by omega) (by omega) u0 u1
        · rw [zk] at h; exact h
        · rcases hq with hq
          · have := SB1_w1.out q hq; rw [zk]; omega
        · rw [zk] at hlt
          have bnd : ∀ q, ((S1 q) ∨ q = ((w1.setCell ⟨w.heap.size + 1, 0, none⟩ (.iface t1 (.pointer (some ⟨q1, 0, none⟩)))).setCell ⟨w.heap.size + 1, 1, none⟩ (.int .i32 l1)).heap.size) → base ≤ q ∧ q < W.heap.size := fun q hq => by
            rw [zk] at hq
            rcases hq with hq | rfl
            · have := SB1_w1.out q hq; omega
            · omega
          exact skDoWhile _ 0 bnd (.inr rfl) (by rw [hA.cell]; rfl) (by rw [hA.cell]; rfl) ((F1_w1.out.keep (by omega) (fun q hq => (hk q hq).trans (s2far (by have := (SB1_w1.out q hq).1; omega) _ _))).more (fun q hq => .inl hq) bnd) )
    clear BW1 A0_w1 A1_w1 F1_w1 SB1_w1
    go_wp2_with fail
    exact bodyPost_ret (v := .tuple #[.agg #[.iface 137 (.pointer (some ⟨w1.heap.size, 0, none⟩)), .int .i32 0], .int .i64 p1, .int .i64 ((k1 : Nat) : Int)]) (by simp [results, Try.results13, go_sem, *]) rfl (END.out _ _)

set_option maxRecDepth 100000 in
set_option maxHeartbeats 8000000 in
theorem ds13 (base n cap B off : Nat) (zs : List Int) (hn : n ≤ 4096) (hz : ∀ i, 0 ≤ zs.getD i 0 ∧ zs.getD i 0 ≤ 255) (m : Nat) (ih : ∀ (p : Nat) (w : World), n - p ≤ m → p ≤ n → Ops base w (some ⟨B, off, none⟩) n zs → base ≤ w.heap.size → Calls Try.prog 13 #[.slice (some ⟨B, off, none⟩) n cap, .int .i64 p] w (DSP base n p w)) (p : Nat) (w : World) (hm : n - p ≤ m + 1) (hpn : p < n) (hO : Ops base w (some ⟨B, off, none⟩) n zs) (hB : base ≤ w.heap.size) (z : Int) (c0 : w.cell? ⟨B, off + p, none⟩ = some (.int .u8 z)) (z0 : 0 ≤ z) (z1 : z ≤ 255) (hk : z % 16 = 13) :
    Calls Try.prog 13 #[.slice (some ⟨B, off, none⟩) n cap, .int .i64 p] w (DSP base n p w) := by
  have HO := Lib.hid hO
  have HZ := Lib.hid hz
  have lB : B < w.heap.size := World.block_lt_of_cell? _ _ c0
  have p0 : (0 : Int) ≤ (p : Int) := Int.natCast_nonneg _
  have p1 : (p : Int) < (n : Int) := by omega
  clear hO hz
  go_enter Try.func13, Try.ntmps13
  go_wp2_with fail
  refine (nextAny base _ n cap (p + 1) zs _ (by omega) (by omega) HZ.out (HO.out.keep ((Below.refl base w).alloc hB _))).mono ?_
  rintro e w' ⟨f, pp, rfl, ⟨hf0, hf1, hpp, hpn1⟩, rfl⟩
  rcases and1 f hf0 hf1 with hb | hb
  · go_wp2_with fail
    obtain ⟨V0, hV⟩ : ∃ V, V = ((w.alloc (.cells #[.nilIface, .int .i32 0] 33)).alloc (.cells #[.nilIface, .int .i32 0] 33)).alloc (.cells #[.nilIface, .int .i32 0] 33) := ⟨_, rfl⟩
    rw [← hV]
    have BX0 := Lib.hid (show Below w.heap.size w V0 from by rw [hV]; exact (by repeat (first | with_reducible exact Below.refl _ _ | (with_reducible refine Below.alloc ?_ (by simp; try omega) _))))
    have A0_0 := Lib.hid (show At V0 (w.heap.size) 33 #[.nilIface, .int .i32 0] from by rw [hV]; exact (((atNew (by simp) 33 _).alloc _).alloc _))
    have A1_0 := Lib.hid (show At V0 (w.heap.size + 1) 33 #[.nilIface, .int .i32 0] from by rw [hV]; exact ((atNew (by simp) 33 _).alloc _))
    have A2_0 := Lib.hid (show At V0 (w.heap.size + 1 + 1) 33 #[.nilIface, .int .i32 0] from by rw [hV]; exact (atNew (by simp) 33 _))
    have zz0 : w.heap.size + 3 ≤ V0.heap.size := by rw [hV]; simp
    clear hV
    refine (ih pp V0 (by omega) (by omega) (HO.out.keep (BX0.out.mono hB)) (Nat.le_trans hB BX0.out.size)).mono ?_
    rintro e w1 ⟨d1, l1, p1, k1, S1, rfl, ⟨t1, q1, rfl⟩, f1, s1, pa1, pb1, pc1, kc1, b1⟩
    have zw1 := b1.size
    have BW1 := Lib.hid (show Below w.heap.size w w1 from BX0.out.trans (b1.mono (by omega)))
    have A0_w1 := Lib.hid (A0_0.out.below b1 (by omega))
    have A1_w1 := Lib.hid (A1_0.out.below b1 (by omega))
    have A2_w1 := Lib.hid (A2_0.out.below b1 (by omega))
    have sb1 : ∀ q, S1 q → w.heap.size + 3 ≤ q ∧ q < w1.heap.size := fun q hq => ⟨by have := s1 q hq; omega, (f1.1 q hq).2⟩
    have SB1_w1 := Lib.hid sb1
    have F1_w1 := Lib.hid f1
    clear BX0 A0_0 A1_0 A2_0
    clear f1 s1 b1 sb1
    have r00w1 : w1.cell? ⟨w.heap.size, 0, none⟩ = some (.nilIface) := by rw [A0_w1.out.cell]; rfl
    have r01w1 : w1.cell? ⟨w.heap.size, 1, none⟩ = some (.int .i32 0) := by rw [A0_w1.out.cell]; rfl
    have r02w1 := A0_w1.out.frozen 0
    have r03w1 := A0_w1.out.frozen 1
    have r04w1 := A0_w1.out.lt
    have r10w1 : w1.cell? ⟨w.heap.size + 1, 0, none⟩ = some (.nilIface) := by rw [A1_w1.out.cell]; rfl
    have r11w1 : w1.cell? ⟨w.heap.size + 1, 1, none⟩ = some (.int .i32 0) := by rw [A1_w1.out.cell]; rfl
    have r12w1 := A1_w1.out.frozen 0
    have r13w1 := A1_w1.out.frozen 1
    have r14w1 := A1_w1.out.lt
    have r20w1 : w1.cell? ⟨w.heap.size + 1 + 1, 0, none⟩ = some (.nilIface) := by rw [A2_w1.out.cell]; rfl
    have r21w1 : w1.cell? ⟨w.heap.size + 1 + 1, 1, none⟩ = some (.int .i32 0) := by rw [A2_w1.out.cell]; rfl
    have r22w1 := A2_w1.out.frozen 0
    have r23w1 := A2_w1.out.frozen 1
    have r24w1 := A2_w1.out.lt
    have END := Lib.hid (show ∀ u0 u1, DSP base n p w (.returned (.tuple #[.agg #[.iface 143 (.pointer (some ⟨w1.heap.size, 0, none⟩)), .int .i32 0], .int .i64 p1, .int .i64 ((k1 : Nat) : Int)])) (((((w1.setCell ⟨w.heap.size + 1 + 1, 0, none⟩ (.iface t1 (.pointer (some ⟨q1, 0, none⟩)))).setCell ⟨w.heap.size + 1 + 1, 1, none⟩ (.int .i32 l1)).setCell ⟨w.heap.size, 0, none⟩ u0).setCell ⟨w.heap.size, 1, none⟩ u1).alloc (.cells #[.nilIface, .int .i32 0, .nilIface, .int .i32 0, .nilIface, .int .i32 0, .iface t1 (.pointer (some ⟨q1, 0, none⟩)), .int .i32 l1, .bool false, .bool false] 145)) from fun u0 u1 => by
        have zk : ((w1.setCell ⟨w.heap.size + 1 + 1, 0, none⟩ (.iface t1 (.pointer (some ⟨q1, 0, none⟩)))).setCell ⟨w.heap.size + 1 + 1, 1, none⟩ (.int .i32 l1)).heap.size = w1.heap.size := by simp only [setSize]
        have h := endN (base := base) (n := n) (p := p) (p' := p1) (kk := k1) (r := w.heap.size) (k := decide (0 < k1)) (w := w) (X := ((w1.setCell ⟨w.heap.size + 1 + 1, 0, none⟩ (.iface t1 (.pointer (some ⟨q1, 0, none⟩)))).setCell ⟨w.heap.size + 1 + 1, 1, none⟩ (.int .i32 l1))) (S := fun q => S1 q) (T := 145) (bT := 143) (cs := #[.nilIface, .int .i32 0, .nilIface, .int .i32 0, .nilIface, .int .i32 0, .iface t1 (.pointer (some ⟨q1, 0, none⟩)), .int .i32 l1, .bool false, .bool false]) hB rfl (s2below BW1.out (by omega) _ _) (by rw [zk]; omega) (fun q hq => ?_) (fun W hA hk hlt => ?_) rfl (by omega) (by omega) (fun _ => by omega) (by omega) u0 u1
        · rw [zk] at h; exact h
        · rcases hq with hq
          · have := SB1_w1.out q hq; rw [zk]; omega
        · rw [zk] at hlt
          have bnd : ∀ q, ((S1 q) ∨ q = ((w1.setCell ⟨w.heap.size + 1 + 1, 0, none⟩ (.iface t1 (.pointer (some ⟨q1, 0, none⟩)))).setCell ⟨w.heap.size + 1 + 1, 1, none⟩ (.int .i32 l1)).heap.size) → base ≤ q ∧ q < W.heap.size := fun q hq => by
            rw [zk] at hq
            rcases hq with hq | rfl
            · have := SB1_w1.out q hq; omega
            · omega
          exact skFor1 _ 0 bnd (.inr rfl) (by rw [hA.cell]; rfl) (by rw [hA.cell]; rfl) ((F1_w1.out.keep (by omega) (fun q hq => (hk q hq).trans (s2far (by have := (SB1_w1.out q hq).1; omega) _ _))).more (fun q hq => .inl hq) bnd) (by rw [hA.cell]; rfl))
    clear BW1 A0_w1 A1_w1 A2_w1 F1_w1 SB1_w1
    go_wp2_with fail
    exact bodyPost_ret (v := .tuple #[.agg #[.iface 143 (.pointer (some ⟨w1.heap.size, 0, none⟩)), .int .i32 0], .int .i64 p1, .int .i64 ((k1 : Nat) : Int)]) (by simp [results, Try.results13, go_sem, *]) rfl (END.out _ _)
  · go_wp2_with fail
    obtain ⟨V0, hV⟩ : ∃ V, V = ((w.alloc (.cells #[.nilIface, .int .i32 0] 33)).alloc (.cells #[.nilIface, .int .i32 0] 33)).alloc (.cells #[.nilIface, .int .i32 0] 33) := ⟨_, rfl⟩
    rw [← hV]
    have BX0 := Lib.hid (show Below w.heap.size w V0 from by rw [hV]; exact (by repeat (first | with_reducible exact Below.refl _ _ | (with_reducible refine Below.alloc ?_ (by simp; try omega) _))))
    have A0_0 := Lib.hid (show At V0 (w.heap.size) 33 #[.nilIface, .int .i32 0] from by rw [hV]; exact (((atNew (by simp) 33 _).alloc _).alloc _))
    have A1_0 := Lib.hid (show At V0 (w.heap.size + 1) 33 #[.nilIface, .int .i32 0] from by rw [hV]; exact ((atNew (by simp) 33 _).alloc _))
    have A2_0 := Lib.hid (show At V0 (w.heap.size + 1 + 1) 33 #[.nilIface, .int .i32 0] from by rw [hV]; exact (atNew (by simp) 33 _))
    have zz0 : w.heap.size + 3 ≤ V0.heap.size := by rw [hV]; simp
    clear hV
    refine (ih pp V0 (by omega) (by omega) (HO.out.keep (BX0.out.mono hB)) (Nat.le_trans hB BX0.out.size)).mono ?_
    rintro e w1 ⟨d1, l1, p1, k1, S1, rfl, ⟨t1, q1, rfl⟩, f1, s1, pa1, pb1, pc1, kc1, b1⟩
    have zw1 := b1.size
    have BW1 := Lib.hid (show Below w.heap.size w w1 from BX0.out.trans (b1.mono (by omega)))
    have A0_w1 := Lib.hid (A0_0.out.below b1 (by omega))
    have A1_w1 := Lib.hid (A1_0.out.below b1 (by omega))
    have A2_w1 := Lib.hid (A2_0.out.below b1 (by omega))
    have sb1 : ∀ q, S1 q → w.heap.size + 3 ≤ q ∧ q < w1.heap.size := fun q hq => ⟨by have := s1 q hq; omega, (f1.1 q hq).2⟩
    have SB1_w1 := Lib.hid sb1
    have F1_w1 := Lib.hid f1
    clear BX0 A0_0 A1_0 A2_0
    clear f1 s1 b1 sb1
    have r00w1 : w1.cell? ⟨w.heap.size, 0, none⟩ = some (.nilIface) := by rw [A0_w1.out.cell]; rfl
    have r01w1 : w1.cell? ⟨w.heap.size, 1, none⟩ = some (.int .i32 0) := by rw [A0_w1.out.cell]; rfl
    have r02w1 := A0_w1.out.frozen 0
    have r03w1 := A0_w1.out.frozen 1
    have r04w1 := A0_w1.out.lt
    have r10w1 : w1.cell? ⟨w.heap.size + 1, 0, none⟩ = some (.nilIface) := by rw [A1_w1.out.cell]; rfl
    have r11w1 : w1.cell? ⟨w.heap.size + 1, 1, none⟩ = some (.int .i32 0) := by rw [A1_w1.out.cell]; rfl
    have r12w1 := A1_w1.out.frozen 0
    have r13w1 := A1_w1.out.frozen 1
    have r14w1 := A1_w1.out.lt
    have r20w1 : w1.cell? ⟨w.heap.size + 1 + 1, 0, none⟩ = some (.nilIface) := by rw [A2_w1.out.cell]; rfl
    have r21w1 : w1.cell? ⟨w.heap.size + 1 + 1, 1, none⟩ = some (.int .i32 0) := by rw [A2_w1.out.cell]; rfl
    have r22w1 := A2_w1.out.frozen 0
    have r23w1 := A2_w1.out.frozen 1
    have r24w1 := A2_w1.out.lt
    go_wp2_with fail
    obtain ⟨V1, hV⟩ : ∃ V, V = (w1.setCell ⟨w.heap.size + 1, 0, none⟩ (.iface t1 (.pointer (some ⟨q1, 0, none⟩)))).setCell ⟨w.heap.size + 1, 1, none⟩ (.int .i32 l1) := ⟨_, rfl⟩
    rw [← hV]
    have zx1 : V1.heap.size = w1.heap.size := by rw [hV]; simp only [setSize]
    have BX1 := Lib.hid (show Below w.heap.size w V1 from by rw [hV]; exact s2below BW1.out (by omega) _ _)
    have A0_1 := Lib.hid (show At V1 (w.heap.size) 33 #[.nilIface, .int .i32 0] from by rw [hV]; exact s2atF (by omega) A0_w1.out _ _)
    have A1_1 := Lib.hid (show At V1 (w.heap.size + 1) 33 #[.iface t1 (.pointer (some ⟨q1, 0, none⟩)), .int .i32 l1] from by rw [hV]; exact s2at A1_w1.out _ _)
    have A2_1 := Lib.hid (show At V1 (w.heap.size + 1 + 1) 33 #[.nilIface, .int .i32 0] from by rw [hV]; exact s2atF (by omega) A2_w1.out _ _)
    have F1_1 := Lib.hid (F1_w1.out.keep (by omega) (fun q hq => (show V1.heap[q]? = w1.heap[q]? from by rw [hV]; exact s2far (by have := (SB1_w1.out q hq).1; omega) _ _)))
    have SB1_1 := Lib.hid (show ∀ q, S1 q → w.heap.size + 3 ≤ q ∧ q < V1.heap.size from fun q hq => ⟨(SB1_w1.out q hq).1, by rw [zx1]; exact (SB1_w1.out q hq).2⟩)
    have zz1 : w.heap.size + 3 ≤ V1.heap.size := by omega
    have zy1 : w1.heap.size ≤ V1.heap.size := by omega
    clear hV zx1 BW1 A0_w1 A1_w1 A2_w1 F1_w1 SB1_w1
    refine (ih p1 V1 (by omega) (by omega) (HO.out.keep (BX1.out.mono hB)) (Nat.le_trans hB BX1.out.size)).mono ?_
    rintro e w2 ⟨d2, l2, p2, k2, S2, rfl, ⟨t2, q2, rfl⟩, f2, s2, pa2, pb2, pc2, kc2, b2⟩
    have zw2 := b2.size
    have BW2 := Lib.hid (show Below w.heap.size w w2 from BX1.out.trans (b2.mono (by omega)))
    have A0_w2 := Lib.hid (A0_1.out.below b2 (by omega))
    have A1_w2 := Lib.hid (A1_1.out.below b2 (by omega))
    have A2_w2 := Lib.hid (A2_1.out.below b2 (by omega))
    have sb2 : ∀ q, S2 q → w.heap.size + 3 ≤ q ∧ q < w2.heap.size := fun q hq => ⟨by have := s2 q hq; omega, (f2.1 q hq).2⟩
    have SB2_w2 := Lib.hid sb2
    have F2_w2 := Lib.hid f2
    have F1_w2 := Lib.hid (F1_1.out.keep b2.size (fun q hq => b2.block q (SB1_1.out q hq).2))
    have SB1_w2 := Lib.hid (show ∀ q, S1 q → w.heap.size + 3 ≤ q ∧ q < w2.heap.size from fun q hq => ⟨(SB1_1.out q hq).1, Nat.lt_of_lt_of_le (SB1_1.out q hq).2 zw2⟩)
    clear r00w1 r01w1 r02w1 r03w1 r04w1 r10w1 r11w1 r12w1 r13w1 r14w1 r20w1 r21w1 r22w1 r23w1 r24w1
    clear BX1 A0_1 A1_1 A2_1 F1_1 SB1_1
    clear f2 s2 b2 sb2
    have r00w2 : w2.cell? ⟨w.heap.size, 0, none⟩ = some (.nilIface) := by rw [A0_w2.out.cell]; rfl
    have r01w2 : w2.cell? ⟨w.heap.size, 1, none⟩ = some (.int .i32 0) := by rw [A0_w2.out.cell]; rfl
    have r02w2 := A0_w2.out.frozen 0
    have r03w2 := A0_w2.out.frozen 1
    have r04w2 := A0_w2.out.lt
    have r10w2 : w2.cell? ⟨w.heap.size + 1, 0, none⟩ = some (.iface t1 (.pointer (some ⟨q1, 0, none⟩))) := by rw [A1_w2.out.cell]; rfl
    have r11w2 : w2.cell? ⟨w.heap.size + 1, 1, none⟩ = some (.int .i32 l1) := by rw [A1_w2.out.cell]; rfl
    have r12w2 := A1_w2.out.frozen 0
    have r13w2 := A1_w2.out.frozen 1
    have r14w2 := A1_w2.out.lt
    have r20w2 : w2.cell? ⟨w.heap.size + 1 + 1, 0, none⟩ = some (.nilIface) := by rw [A2_w2.out.cell]; rfl
    have r21w2 : w2.cell? ⟨w.heap.size + 1 + 1, 1, none⟩ = some (.int .i32 0) := by rw [A2_w2.out.cell]; rfl
    have r22w2 := A2_w2.out.frozen 0
    have r23w2 := A2_w2.out.frozen 1
    have r24w2 := A2_w2.out.lt
    have END := Lib.hid (show ∀ u0 u1, DSP base n p w (.returned (.tuple #[.agg #[.iface 143 (.pointer (some ⟨w2.heap.size, 0, none⟩)), .int .i32 0], .int .i64 p2, .int .i64 ((k1 + k2 : Nat) : Int)])) (((((w2.setCell ⟨w.heap.size + 1 + 1, 0, none⟩ (.iface t2 (.pointer (some ⟨q2, 0, none⟩)))).setCell ⟨w.heap.size + 1 + 1, 1, none⟩ (.int .i32 l2)).setCell ⟨w.heap.size, 0, none⟩ u0).setCell ⟨w.heap.size, 1, none⟩ u1).alloc (.cells #[.iface t1 (.pointer (some ⟨q1, 0, none⟩)), .int .i32 l1, .nilIface, .int .i32 0, .nilIface, .int .i32 0, .iface t2 (.pointer (some ⟨q2, 0, none⟩)), .int .i32 l2, .bool false, .bool false] 145)) from fun u0 u1 => by
        have zk : ((w2.setCell ⟨w.heap.size + 1 + 1, 0, none⟩ (.iface t2 (.pointer (some ⟨q2, 0, none⟩)))).setCell ⟨w.heap.size + 1 + 1, 1, none⟩ (.int .i32 l2)).heap.size = w2.heap.size := by simp only [setSize]
        have h := endN (base := base) (n := n) (p := p) (p' := p2) (kk := k1 + k2) (r := w.heap.size) (k := decide (0 < k1) || decide (0 < k2)) (w := w) (X := ((w2.setCell ⟨w.heap.size + 1 + 1, 0, none⟩ (.iface t2 (.pointer (some ⟨q2, 0, none⟩)))).setCell ⟨w.heap.size + 1 + 1, 1, none⟩ (.int .i32 l2))) (S := fun q => S1 q ∨ S2 q) (T := 145) (bT := 143) (cs := #[.iface t1 (.pointer (some ⟨q1, 0, none⟩)), .int .i32 l1, .nilIface, .int .i32 0, .nilIface, .int .i32 0, .iface t2 (.pointer (some ⟨q2, 0, none⟩)), .int .i32 l2, .bool false, .bool false]) hB rfl (s2below BW2.out (by omega) _ _) (by rw [zk]; omega) (fun q hq => ?_) (fun W hA hk hlt => ?_) (add_dec _ _) (by omega) (by omega) (fun _ => by omega) (by omega) u0 u1
        · rw [zk] at h; exact h
        · rcases hq with hq | hq
          · have := SB1_w2.out q hq; rw [zk]; omega
          · have := SB2_w2.out q hq; rw [zk]; omega
        · rw [zk] at hlt
          have bnd : ∀ q, ((S1 q ∨ S2 q) ∨ q = ((w2.setCell ⟨w.heap.size + 1 + 1, 0, none⟩ (.iface t2 (.pointer (some ⟨q2, 0, none⟩)))).setCell ⟨w.heap.size + 1 + 1, 1, none⟩ (.int .i32 l2)).heap.size) → base ≤ q ∧ q < W.heap.size := fun q hq => by
            rw [zk] at hq
            rcases hq with (hq | hq) | rfl
            · have := SB1_w2.out q hq; omega
            · have := SB2_w2.out q hq; omega
            · omega
          exact skFor2 _ 0 bnd (.inr rfl) (by rw [hA.cell]; rfl) (by rw [hA.cell]; rfl) ((F1_w2.out.keep (by omega) (fun q hq => (hk q (.inl hq)).trans (s2far (by have := (SB1_w2.out q hq).1; omega) _ _))).more (fun q hq => .inl (.inl hq)) bnd) (by rw [hA.cell]; rfl) (by rw [hA.cell]; rfl) ((F2_w2.out.keep (by omega) (fun q hq => (hk q (.inr hq)).trans (s2far (by have := (SB2_w2.out q hq).1; omega) _ _))).more (fun q hq => .inl (.inr hq)) bnd) )
    clear BW2 A0_w2 A1_w2 A2_w2 F1_w2 SB1_w2 F2_w2 SB2_w2
    go_wp2_with fail
    exact bodyPost_ret (v := .tuple #[.agg #[.iface 143 (.pointer (some ⟨w2.heap.size, 0, none⟩)), .int .i32 0], .int .i64 p2, .int .i64 ((k1 + k2 : Nat) : Int)]) (by simp [results, Try.results13, go_sem, *]) rfl (END.out _ _)

set_option maxRecDepth 100000 in
set_option maxHeartbeats 8000000 in
theorem ds14 (base n cap B off : Nat) (zs : List Int) (hn : n ≤ 4096) (hz : ∀ i, 0 ≤ zs.getD i 0 ∧ zs.getD i 0 ≤ 255) (m : Nat) (ih : ∀ (p : Nat) (w : World), n - p ≤ m → p ≤ n → Ops base w (some ⟨B, off, none⟩) n zs → base ≤ w.heap.size → Calls Try.prog 13 #[.slice (some ⟨B, off, none⟩) n cap, .int .i64 p] w (DSP base n p w)) (p : Nat) (w : World) (hm : n - p ≤ m + 1) (hpn : p < n) (hO : Ops base w (some ⟨B, off, none⟩) n zs) (hB : base ≤ w.heap.size) (z : Int) (c0 : w.cell? ⟨B, off + p, none⟩ = some (.int .u8 z)) (z0 : 0 ≤ z) (z1 : z ≤ 255) (hk : z % 16 = 14) :
    Calls Try.prog 13 #[.slice (some ⟨B, off, none⟩) n cap, .int .i64 p] w (DSP base n p w) := by
  have HO := Lib.hid hO
  have HZ := Lib.hid hz
  have lB : B < w.heap.size := World.block_lt_of_cell? _ _ c0
  have p0 : (0 : Int) ≤ (p : Int) := Int.natCast_nonneg _
  have p1 : (p : Int) < (n : Int) := by omega
  clear hO hz
  go_enter Try.func13, Try.ntmps13
  go_wp2_with fail
  refine (nextAny base _ n cap (p + 1) zs _ (by omega) (by omega) HZ.out (HO.out.keep ((Below.refl base w).alloc hB _))).mono ?_
  rintro e w' ⟨f, pp, rfl, ⟨hf0, hf1, hpp, hpn1⟩, rfl⟩
  rcases and1 f hf0 hf1 with hb | hb
  · go_wp2_with fail
    obtain ⟨V0, hV⟩ : ∃ V, V = ((w.alloc (.cells #[.nilIface, .int .i32 0] 33)).alloc (.cells #[.nilIface, .int .i32 0] 33)).alloc (.cells #[.nilIface, .int .i32 0] 33) := ⟨_, rfl⟩
    rw [← hV]
    have BX0 := Lib.hid (show Below w.heap.size w V0 from by rw [hV]; exact (by repeat (first | with_reducible exact Below.refl _ _ | (with_reducible refine Below.alloc ?_ (by simp; try omega) _))))
    have A0_0 := Lib.hid (show At V0 (w.heap.size) 33 #[.nilIface, .int .i32 0] from by rw [hV]; exact (((atNew (by simp) 33 _).alloc _).alloc _))
    have A1_0 := Lib.hid (show At V0 (w.heap.size + 1) 33 #[.nilIface, .int .i32 0] from by rw [hV]; exact ((atNew (by simp) 33 _).alloc _))
    have A2_0 := Lib.hid (show At V0 (w.heap.size + 1 + 1) 33 #[.nilIface, .int .i32 0] from by rw [hV]; exact (atNew (by simp) 33 _))
    have zz0 : w.heap.size + 3 ≤ V0.heap.size := by rw [hV]; simp
    clear hV
    refine (ih pp V0 (by omega) (by omega) (HO.out.keep (BX0.out.mono hB)) (Nat.le_trans hB BX0.out.size)).mono ?_
    rintro e w1 ⟨d1, l1, p1, k1, S1, rfl, ⟨t1, q1, rfl⟩, f1, s1, pa1, pb1, pc1, kc1, b1⟩
    have zw1 := b1.size
    have BW1 := Lib.hid (show Below w.heap.size w w1 from BX0.out.trans (b1.mono (by omega)))
    have A0_w1 := Lib.hid (A0_0.out.below b1 (by omega))
    have A1_w1 := Lib.hid (A1_0.out.below b1 (by omega))
    have A2_w1 := Lib.hid (A2_0.out.below b1 (by omega))
    have sb1 : ∀ q, S1 q → w.heap.size + 3 ≤ q ∧ q < w1.heap.size := fun q hq => ⟨by have := s1 q hq; omega, (f1.1 q hq).2⟩
    have SB1_w1 := Lib.hid sb1
    have F1_w1 := Lib.hid f1
    clear BX0 A0_0 A1_0 A2_0
    clear f1 s1 b1 sb1
    have r00w1 : w1.cell? ⟨w.heap.size, 0, none⟩ = some (.nilIface) := by rw [A0_w1.out.cell]; rfl
    have r01w1 : w1.cell? ⟨w.heap.size, 1, none⟩ = some (.int .i32 0) := by rw [A0_w1.out.cell]; rfl
    have r02w1 := A0_w1.out.frozen 0
    have r03w1 := A0_w1.out.frozen 1
    have r04w1 := A0_w1.out.lt
    have r10w1 : w1.cell? ⟨w.heap.size + 1, 0, none⟩ = some (.nilIface) := by rw [A1_w1.out.cell]; rfl
    have r11w1 : w1.cell? ⟨w.heap.size + 1, 1, none⟩ = some (.int .i32 0) := by rw [A1_w1.out.cell]; rfl
    have r12w1 := A1_w1.out.frozen 0
    have r13w1 := A1_w1.out.frozen 1
    have r14w1 := A1_w1.out.lt
    have r20w1 : w1.cell? ⟨w.heap.size + 1 + 1, 0, none⟩ = some (.nilIface) := by rw [A2_w1.out.cell]; rfl
    have r21w1 : w1.cell? ⟨w.heap.size + 1 + 1, 1, none⟩ = some (.int .i32 0) := by rw [A2_w1.out.cell]; rfl
    have r22w1 := A2_w1.out.frozen 0
    have r23w1 := A2_w1.out.frozen 1
    have r24w1 := A2_w1.out.lt
    go_wp2_with fail
    obtain ⟨V1, hV⟩ : ∃ V, V = (w1.setCell ⟨w.heap.size + 1, 0, none⟩ (.iface t1 (.pointer (some ⟨q1, 0, none⟩)))).setCell ⟨w.heap.size + 1, 1, none⟩ (.int .i32 l1) := ⟨_, rfl⟩
    rw [← hV]
    have zx1 : V1.heap.size = w1.heap.size := by rw [hV]; simp only [setSize]
    have BX1 := Lib.hid (show Below w.heap.size w V1 from by rw [hV]; exact s2below BW1.out (by omega) _ _)
    have A0_1 := Lib.hid (show At V1 (w.heap.size) 33 #[.nilIface, .int .i32 0] from by rw [hV]; exact s2atF (by omega) A0_w1.out _ _)
    have A1_1 := Lib.hid (show At V1 (w.heap.size + 1) 33 #[.iface t1 (.pointer (some ⟨q1, 0, none⟩)), .int .i32 l1] from by rw [hV]; exact s2at A1_w1.out _ _)
    have A2_1 := Lib.hid (show At V1 (w.heap.size + 1 + 1) 33 #[.nilIface, .int .i32 0] from by rw [hV]; exact s2atF (by omega) A2_w1.out _ _)
    have F1_1 := Lib.hid (F1_w1.out.keep (by omega) (fun q hq => (show V1.heap[q]? = w1.heap[q]? from by rw [hV]; exact s2far (by have := (SB1_w1.out q hq).1; omega) _ _)))
    have SB1_1 := Lib.hid (show ∀ q, S1 q → w.heap.size + 3 ≤ q ∧ q < V1.heap.size from fun q hq => ⟨(SB1_w1.out q hq).1, by rw [zx1]; exact (SB1_w1.out q hq).2⟩)
    have zz1 : w.heap.size + 3 ≤ V1.heap.size := by omega
    have zy1 : w1.heap.size ≤ V1.heap.size := by omega
    clear hV zx1 BW1 A0_w1 A1_w1 A2_w1 F1_w1 SB1_w1
    refine (ih p1 V1 (by omega) (by omega) (HO.out.keep (BX1.out.mono hB)) (Nat.le_trans hB BX1.out.size)).mono ?_
    rintro e w2 ⟨d2, l2, p2, k2, S2, rfl, ⟨t2, q2, rfl⟩, f2, s2, pa2, pb2, pc2, kc2, b2⟩
    have zw2 := b2.size
    have BW2 := Lib.hid (show Below w.heap.size w w2 from BX1.out.trans (b2.mono (by omega)))
    have A0_w2 := Lib.hid (A0_1.out.below b2 (by omega))
    have A1_w2 := Lib.hid (A1_1.out.below b2 (by omega))
    have A2_w2 := Lib.hid (A2_1.out.below b2 (by omega))
    have sb2 : ∀ q, S2 q → w.heap.size + 3 ≤ q ∧ q < w2.heap.size := fun q hq => ⟨by have := s2 q hq; omega, (f2.1 q hq).2⟩
    have SB2_w2 := Lib.hid sb2
    have F2_w2 := Lib.hid f2
    have F1_w2 := Lib.hid (F1_1.out.keep b2.size (fun q hq => b2.block q (SB1_1.out q hq).2))
    have SB1_w2 := Lib.hid (show ∀ q, S1 q → w.heap.size + 3 ≤ q ∧ q < w2.heap.size from fun q hq => ⟨(SB1_1.out q hq).1, Nat.lt_of_lt_of_le (SB1_1.out q hq).2 zw2⟩)
    clear r00w1 r01w1 r02w1 r03w1 r04w1 r10w1 r11w1 r12w1 r13w1 r14w1 r20w1 r21w1 r22w1 r23w1 r24w1
    clear BX1 A0_1 A1_1 A2_1 F1_1 SB1_1
    clear f2 s2 b2 sb2
    have r00w2 : w2.cell? ⟨w.heap.size, 0, none⟩ = some (.nilIface) := by rw [A0_w2.out.cell]; rfl
    have r01w2 : w2.cell? ⟨w.heap.size, 1, none⟩ = some (.int .i32 0) := by rw [A0_w2.out.cell]; rfl
    have r02w2 := A0_w2.out.frozen 0
    have r03w2 := A0_w2.out.frozen 1
    have r04w2 := A0_w2.out.lt
    have r10w2 : w2.cell? ⟨w.heap.size + 1, 0, none⟩ = some (.iface t1 (.pointer (some ⟨q1, 0, none⟩))) := by rw [A1_w2.out.cell]; rfl
    have r11w2 : w2.cell? ⟨w.heap.size + 1, 1, none⟩ = some (.int .i32 l1) := by rw [A1_w2.out.cell]; rfl
    have r12w2 := A1_w2.out.frozen 0
    have r13w2 := A1_w2.out.frozen 1
    have r14w2 := A1_w2.out.lt
    have r20w2 : w2.cell? ⟨w.heap.size + 1 + 1, 0, none⟩ = some (.nilIface) := by rw [A2_w2.out.cell]; rfl
    have r21w2 : w2.cell? ⟨w.heap.size + 1 + 1, 1, none⟩ = some (.int .i32 0) := by rw [A2_w2.out.cell]; rfl
    have r22w2 := A2_w2.out.frozen 0
    have r23w2 := A2_w2.out.frozen 1
    have r24w2 := A2_w2.out.lt
    have END := Lib.hid (show ∀ u0 u1, DSP base n p w (.returned (.tuple #[.agg #[.iface 149 (.pointer (some ⟨w2.heap.size, 0, none⟩)), .int .i32 0], .int .i64 p2, .int .i64 ((k1 + k2 : Nat) : Int)])) (((((w2.setCell ⟨w.heap.size + 1 + 1, 0, none⟩ (.iface t2 (.pointer (some ⟨q2, 0, none⟩)))).setCell ⟨w.heap.size + 1 + 1, 1, none⟩ (.int .i32 l2)).setCell ⟨w.heap.size, 0, none⟩ u0).setCell ⟨w.heap.size, 1, none⟩ u1).alloc (.cells #[.iface t1 (.pointer (some ⟨q1, 0, none⟩)), .int .i32 l1, .nilIface, .int .i32 0, .iface t2 (.pointer (some ⟨q2, 0, none⟩)), .int .i32 l2, .bool false] 151)) from fun u0 u1 => by
        have zk : ((w2.setCell ⟨w.heap.size + 1 + 1, 0, none⟩ (.iface t2 (.pointer (some ⟨q2, 0, none⟩)))).setCell ⟨w.heap.size + 1 + 1, 1, none⟩ (.int .i32 l2)).heap.size = w2.heap.size := by simp only [setSize]
        have h := endN (base := base) (n := n) (p := p) (p' := p2) (kk := k1 + k2) (r := w.heap.size) (k := decide (0 < k1) || decide (0 < k2)) (w := w) (X := ((w2.setCell ⟨w.heap.size + 1 + 1, 0, none⟩ (.iface t2 (.pointer (some ⟨q2, 0, none⟩)))).setCell ⟨w.heap.size + 1 + 1, 1, none⟩ (.int .i32 l2))) (S := fun q => S1 q ∨ S2 q) (T := 151) (bT := 149) (cs := #[.iface t1 (.pointer (some ⟨q1, 0, none⟩)), .int .i32 l1, .nilIface, .int .i32 0, .iface t2 (.pointer (some ⟨q2, 0, none⟩)), .int .i32 l2, .bool false]) hB rfl (s2below BW2.out (by omega) _ _) (by rw [zk]; omega) (fun q hq => ?_) (fun W hA hk hlt => ?_) (add_dec _ _) (by omega) (by omega) (fun _ => by omega) (by omega) u0 u1
        · rw [zk] at h; exact h
        · rcases hq with hq | hq
          · have := SB1_w2.out q hq; rw [zk]; omega
          · have := SB2_w2.out q hq; rw [zk]; omega
        · rw [zk] at hlt
          have bnd : ∀ q, ((S1 q ∨ S2 q) ∨ q = ((w2.setCell ⟨w.heap.size + 1 + 1, 0, none⟩ (.iface t2 (.pointer (some ⟨q2, 0, none⟩)))).setCell ⟨w.heap.size + 1 + 1, 1, none⟩ (.int .i32 l2)).heap.size) → base ≤ q ∧ q < W.heap.size := fun q hq => by
            rw [zk] at hq
            rcases hq with (hq | hq) | rfl
            · have := SB1_w2.out q hq; omega
            · have := SB2_w2.out q hq; omega
            · omega
          exact skForIn _ 0 bnd (.inr rfl) (by rw [hA.cell]; rfl) (by rw [hA.cell]; rfl) ((F1_w2.out.keep (by omega) (fun q hq => (hk q (.inl hq)).trans (s2far (by have := (SB1_w2.out q hq).1; omega) _ _))).more (fun q hq => .inl (.inl hq)) bnd) (by rw [hA.cell]; rfl) (by rw [hA.cell]; rfl) ((F2_w2.out.keep (by omega) (fun q hq => (hk q (.inr hq)).trans (s2far (by have := (SB2_w2.out q hq).1; omega) _ _))).more (fun q hq => .inl (.inr hq)) bnd) )
    clear BW2 A0_w2 A1_w2 A2_w2 F1_w2 SB1_w2 F2_w2 SB2_w2
    go_wp2_with fail
    exact bodyPost_ret (v := .tuple #[.agg #[.iface 149 (.pointer (some ⟨w2.heap.size, 0, none⟩)), .int .i32 0], .int .i64 p2, .int .i64 ((k1 + k2 : Nat) : Int)]) (by simp [results, Try.results13, go_sem, *]) rfl (END.out _ _)
  · go_wp2_with fail
    obtain ⟨V0, hV⟩ : ∃ V, V = ((w.alloc (.cells #[.nilIface, .int .i32 0] 33)).alloc (.cells #[.nilIface, .int .i32 0] 33)).alloc (.cells #[.nilIface, .int .i32 0] 33) := ⟨_, rfl⟩
    rw [← hV]
    have BX0 := Lib.hid (show Below w.heap.size w V0 from by rw [hV]; exact (by repeat (first | with_reducible exact Below.refl _ _ | (with_reducible refine Below.alloc ?_ (by simp; try omega) _))))
    have A0_0 := Lib.hid (show At V0 (w.heap.size) 33 #[.nilIface, .int .i32 0] from by rw [hV]; exact (((atNew (by simp) 33 _).alloc _).alloc _))
    have A1_0 := Lib.hid (show At V0 (w.heap.size + 1) 33 #[.nilIface, .int .i32 0] from by rw [hV]; exact ((atNew (by simp) 33 _).alloc _))
    have A2_0 := Lib.hid (show At V0 (w.heap.size + 1 + 1) 33 #[.nilIface, .int .i32 0] from by rw [hV]; exact (atNew (by simp) 33 _))
    have zz0 : w.heap.size + 3 ≤ V0.heap.size := by rw [hV]; simp
    clear hV
    refine (ih pp V0 (by omega) (by omega) (HO.out.keep (BX0.out.mono hB)) (Nat.le_trans hB BX0.out.size)).mono ?_
    rintro e w1 ⟨d1, l1, p1, k1, S1, rfl, ⟨t1, q1, rfl⟩, f1, s1, pa1, pb1, pc1, kc1, b1⟩
    have zw1 := b1.size
    have BW1 := Lib.hid (show Below w.heap.size w w1 from BX0.out.trans (b1.mono (by omega)))
    have A0_w1 := Lib.hid (A0_0.out.below b1 (by omega))
    have A1_w1 := Lib.hid (A1_0.out.below b1 (by omega))
    have A2_w1 := Lib.hid (A2_0.out.below b1 (by omega))
    have sb1 : ∀ q, S1 q → w.heap.size + 3 ≤ q ∧ q < w1.heap.size := fun q hq => ⟨by have := s1 q hq; omega, (f1.1 q hq).2⟩
    have SB1_w1 := Lib.hid sb1
    have F1_w1 := Lib.hid f1
    clear BX0 A0_0 A1_0 A2_0
    clear f1 s1 b1 sb1
    have r00w1 : w1.cell? ⟨w.heap.size, 0, none⟩ = some (.nilIface) := by rw [A0_w1.out.cell]; rfl
    have r01w1 : w1.cell? ⟨w.heap.size, 1, none⟩ = some (.int .i32 0) := by rw [A0_w1.out.cell]; rfl
    have r02w1 := A0_w1.out.frozen 0
    have r03w1 := A0_w1.out.frozen 1
    have r04w1 := A0_w1.out.lt
    have r10w1 : w1.cell? ⟨w.heap.size + 1, 0, none⟩ = some (.nilIface) := by rw [A1_w1.out.cell]; rfl
    have r11w1 : w1.cell? ⟨w.heap.size + 1, 1, none⟩ = some (.int .i32 0) := by rw [A1_w1.out.cell]; rfl
    have r12w1 := A1_w1.out.frozen 0
    have r13w1 := A1_w1.out.frozen 1
    have r14w1 := A1_w1.out.lt
    have r20w1 : w1.cell? ⟨w.heap.size + 1 + 1, 0, none⟩ = some (.nilIface) := by rw [A2_w1.out.cell]; rfl
    have r21w1 : w1.cell? ⟨w.heap.size + 1 + 1, 1, none⟩ = some (.int .i32 0) := by rw [A2_w1.out.cell]; rfl
    have r22w1 := A2_w1.out.frozen 0
    have r23w1 := A2_w1.out.frozen 1
    have r24w1 := A2_w1.out.lt
    go_wp2_with fail
    obtain ⟨V1, hV⟩ : ∃ V, V = (w1.setCell ⟨w.heap.size + 1, 0, none⟩ (.iface t1 (.pointer (some ⟨q1, 0, none⟩)))).setCell ⟨w.heap.size + 1, 1, none⟩ (.int .i32 l1) := ⟨_, rfl⟩
    rw [← hV]
    have zx1 : V1.heap.size = w1.heap.size := by rw [hV]; simp only [setSize]
    have BX1 := Lib.hid (show Below w.heap.size w V1 from by rw [hV]; exact s2below BW1.out (by omega) _ _)
    have A0_1 := Lib.hid (show At V1 (w.heap.size) 33 #[.nilIface, .int .i32 0] from by rw [hV]; exact s2atF (by omega) A0_w1.out _ _)
    have A1_1 := Lib.hid (show At V1 (w.heap.size + 1) 33 #[.iface t1 (.pointer (some ⟨q1, 0, none⟩)), .int .i32 l1] from by rw [hV]; exact s2at A1_w1.out _ _)
    have A2_1 := Lib.hid (show At V1 (w.heap.size + 1 + 1) 33 #[.nilIface, .int .i32 0] from by rw [hV]; exact s2atF (by omega) A2_w1.out _ _)
    have F1_1 := Lib.hid (F1_w1.out.keep (by omega) (fun q hq => (show V1.heap[q]? = w1.heap[q]? from by rw [hV]; exact s2far (by have := (SB1_w1.out q hq).1; omega) _ _)))
    have SB1_1 := Lib.hid (show ∀ q, S1 q → w.heap.size + 3 ≤ q ∧ q < V1.heap.size from fun q hq => ⟨(SB1_w1.out q hq).1, by rw [zx1]; exact (SB1_w1.out q hq).2⟩)
    have zz1 : w.heap.size + 3 ≤ V1.heap.size := by omega
    have zy1 : w1.heap.size ≤ V1.heap.size := by omega
    clear hV zx1 BW1 A0_w1 A1_w1 A2_w1 F1_w1 SB1_w1
    refine (ih p1 V1 (by omega) (by omega) (HO.out.keep (BX1.out.mono hB)) (Nat.le_trans hB BX1.out.size)).mono ?_
    rintro e w2 ⟨d2, l2, p2, k2, S2, rfl, ⟨t2, q2, rfl⟩, f2, s2, pa2, pb2, pc2, kc2, b2⟩
    have zw2 := b2.size
    have BW2 := Lib.hid (show Below w.heap.size w w2 from BX1.out.trans (b2.mono (by omega)))
    have A0_w2 := Lib.hid (A0_1.out.below b2 (by omega))
    have A1_w2 := Lib.hid (A1_1.out.below b2 (by omega))
    have A2_w2 := Lib.hid (A2_1.out.below b2 (by omega))
    have sb2 : ∀ q, S2 q → w.heap.size + 3 ≤ q ∧ q < w2.heap.size := fun q hq => ⟨by have := s2 q hq; omega, (f2.1 q hq).2⟩
    have SB2_w2 := Lib.hid sb2
    have F2_w2 := Lib.hid f2
    have F1_w2 := Lib.hid (F1_1.out.keep b2.size (fun q hq => b2.block q (SB1_1.out q hq).2))
    have SB1_w2 := Lib.hid (show ∀ q, S1 q → w.heap.size + 3 ≤ q ∧ q < w2.heap.size from fun q hq => ⟨(SB1_1.out q hq).1, Nat.lt_of_lt_of_le (SB1_1.out q hq).2 zw2⟩)
    clear r00w1 r01w1 r02w1 r03w1 r04w1 r10w1 r11w1 r12w1 r13w1 r14w1 r20w1 r21w1 r22w1 r23w1 r24w1
    clear BX1 A0_1 A1_1 A2_1 F1_1 SB1_1
    clear f2 s2 b2 sb2
    have r00w2 : w2.cell? ⟨w.heap.size, 0, none⟩ = some (.nilIface) := by rw [A0_w2.out.cell]; rfl
    have r01w2 : w2.cell? ⟨w.heap.size, 1, none⟩ = some (.int .i32 0) := by rw [A0_w2.out.cell]; rfl
    have r02w2 := A0_w2.out.frozen 0
    have r03w2 := A0_w2.out.frozen 1
    have r04w2 := A0_w2.out.lt
    have r10w2 : w2.cell? ⟨w.heap.size + 1, 0, none⟩ = some (.iface t1 (.pointer (some ⟨q1, 0, none⟩))) := by rw [A1_w2.out.cell]; rfl
    have r11w2 : w2.cell? ⟨w.heap.size + 1, 1, none⟩ = some (.int .i32 l1) := by rw [A1_w2.out.cell]; rfl
    have r12w2 := A1_w2.out.frozen 0
    have r13w2 := A1_w2.out.frozen 1
    have r14w2 := A1_w2.out.lt
    have r20w2 : w2.cell? ⟨w.heap.size + 1 + 1, 0, none⟩ = some (.nilIface) := by rw [A2_w2.out.cell]; rfl
    have r21w2 : w2.cell? ⟨w.heap.size + 1 + 1, 1, none⟩ = some (.int .i32 0) := by rw [A2_w2.out.cell]; rfl
    have r22w2 := A2_w2.out.frozen 0
    have r23w2 := A2_w2.out.frozen 1
    have r24w2 := A2_w2.out.lt
    have END := Lib.hid (show ∀ u0 u1, DSP base n p w (.returned (.tuple #[.agg #[.iface 146 (.pointer (some ⟨w2.heap.size, 0, none⟩)), .int .i32 0], .int .i64 p2, .int .i64 ((k1 + k2 : Nat) : Int)])) (((((w2.setCell ⟨w.heap.size + 1 + 1, 0, none⟩ (.iface t2 (.pointer (some ⟨q2, 0, none⟩)))).setCell ⟨w.heap.size + 1 + 1, 1, none⟩ (.int .i32 l2)).setCell ⟨w.heap.size, 0, none⟩ u0).setCell ⟨w.heap.size, 1, none⟩ u1).alloc (.cells #[.iface t1 (.pointer (some ⟨q1, 0, none⟩)), .int .i32 l1, .nilIface, .int .i32 0, .iface t2 (.pointer (some ⟨q2, 0, none⟩)), .int .i32 l2, .int .i32 0, .int .i32 0, .bool false] 148)) from fun u0 u1 => by
        have zk : ((w2.setCell ⟨w.heap.size + 1 + 1, 0, none⟩ (.iface t2 (.pointer (some ⟨q2, 0, none⟩)))).setCell ⟨w.heap.size + 1 + 1, 1, none⟩ (.int .i32 l2)).heap.size = w2.heap.size := by simp only [setSize]
        have h := endN (base := base) (n := n) (p := p) (p' := p2) (kk := k1 + k2) (r := w.heap.size) (k := decide (0 < k1) || decide (0 < k2)) (w := w) (X := ((w2.setCell ⟨w.heap.size + 1 + 1, 0, none⟩ (.iface t2 (.pointer (some ⟨q2, 0, none⟩)))).setCell ⟨w.heap.size + 1 + 1, 1, none⟩ (.int .i32 l2))) (S := fun q => S1 q ∨ S2 q) (T := 148) (bT := 146) (cs := #[.iface t1 (.pointer (some ⟨q1, 0, none⟩)), .int .i32 l1, .nilIface, .int .i32 0, .iface t2 (.pointer (some ⟨q2, 0, none⟩)), .int .i32 l2, .int .i32 0, .int .i32 0, .bool false]) hB rfl (s2below BW2.out (by omega) _ _) (by rw [zk]; omega) (fun q hq => ?_) (fun W hA hk hlt => ?_) (add_dec _ _) (by omega) (by omega) (fun _ => by omega) (by omega) u0 u1
        · rw [zk] at h; exact h
        · rcases hq with hq | hq
          · have := SB1_w2.out q hq; rw [zk]; omega
          · have := SB2_w2.out q hq; rw [zk]; omega
        · rw [zk] at hlt
          have bnd : ∀ q, ((S1 q ∨ S2 q) ∨ q = ((w2.setCell ⟨w.heap.size + 1 + 1, 0, none⟩ (.iface t2 (.pointer (some ⟨q2, 0, none⟩)))).setCell ⟨w.heap.size + 1 + 1, 1, none⟩ (.int .i32 l2)).heap.size) → base ≤ q ∧ q < W.heap.size := fun q hq => by
            rw [zk] at hq
            rcases hq with (hq | hq) | rfl
            · have := SB1_w2.out q hq; omega
            · have := SB2_w2.out q hq; omega
            · omega
          exact skForOf _ 0 bnd (.inr rfl) (by rw [hA.cell]; rfl) (by rw [hA.cell]; rfl) ((F1_w2.out.keep (by omega) (fun q hq => (hk q (.inl hq)).trans (s2far (by have := (SB1_w2.out q hq).1; omega) _ _))).more (fun q hq => .inl (.inl hq)) bnd) (by rw [hA.cell]; rfl) (by rw [hA.cell]; rfl) ((F2_w2.out.keep (by omega) (fun q hq => (hk q (.inr hq)).trans (s2far (by have := (SB2_w2.out q hq).1; omega) _ _))).more (fun q hq => .inl (.inr hq)) bnd) )
    clear BW2 A0_w2 A1_w2 A2_w2 F1_w2 SB1_w2 F2_w2 SB2_w2
    go_wp2_with fail
    exact bodyPost_ret (v := .tuple #[.agg #[.iface 146 (.pointer (some ⟨w2.heap.size, 0, none⟩)), .int .i32 0], .int .i64 p2, .int .i64 ((k1 + k2 : Nat) : Int)]) (by simp [results, Try.results13, go_sem, *]) rfl (END.out _ _)

set_option maxRecDepth 100000 in
set_option maxHeartbeats 8000000 in
theorem ds15 (base n cap B off : Nat) (zs : List Int) (hn : n ≤ 4096) (hz : ∀ i, 0 ≤ zs.getD i 0 ∧ zs.getD i 0 ≤ 255) (m : Nat) (ih : ∀ (p : Nat) (w : World), n - p ≤ m → p ≤ n → Ops base w (some ⟨B, off, none⟩) n zs → base ≤ w.heap.size → Calls Try.prog 13 #[.slice (some ⟨B, off, none⟩) n cap, .int .i64 p] w (DSP base n p w)) (p : Nat) (w : World) (hm : n - p ≤ m + 1) (hpn : p < n) (hO : Ops base w (some ⟨B, off, none⟩) n zs) (hB : base ≤ w.heap.size) (z : Int) (c0 : w.cell? ⟨B, off + p, none⟩ = some (.int .u8 z)) (z0 : 0 ≤ z) (z1 : z ≤ 255) (hk : z % 16 = 15) :
    Calls Try.prog 13 #[.slice (some ⟨B, off, none⟩) n cap, .int .i64 p] w (DSP base n p w) := by
  have HO := Lib.hid hO
  have HZ := Lib.hid hz
  have lB : B < w.heap.size := World.block_lt_of_cell? _ _ c0
  have p0 : (0 : Int) ≤ (p : Int) := Int.natCast_nonneg _
  have p1 : (p : Int) < (n : Int) := by omega
  clear hO hz
  go_enter Try.func13, Try.ntmps13
  go_wp2_with fail
  refine (nextAny base _ n cap (p + 1) zs _ (by omega) (by omega) HZ.out (HO.out.keep ((Below.refl base w).alloc hB _))).mono ?_
  rintro e w' ⟨f, pp, rfl, ⟨hf0, hf1, hpp, hpn1⟩, rfl⟩
  rcases and1 f hf0 hf1 with hb | hb
  · have END := Lib.hid (fun o1 o2 b => leafD (base := base) (n := n) (p := p) (p' := pp) (kk := 1) (w := w) ⟨_, _, rfl⟩ (fun W => skDirective base b 0 W) (by omega) (by omega) (fun _ => by omega) (by omega) o1 o2)
    go_wp2_with fail
    exact bodyPost_ret (v := .tuple #[.agg #[.iface 159 (.pointer (some ⟨w.heap.size + 1, 0, none⟩)), .int .i32 0], .int .i64 pp, .int .i64 1]) (by simp [results, Try.results13, go_sem, *]) rfl (END.out _ _ _)
  · go_wp2_with fail
    obtain ⟨V0, hV⟩ : ∃ V, V = (w.alloc (.cells #[.nilIface, .int .i32 0] 33)).alloc (.cells #[.nilIface, .int .i32 0] 33) := ⟨_, rfl⟩
    rw [← hV]
    have BX0 := Lib.hid (show Below w.heap.size w V0 from by rw [hV]; exact (by repeat (first | with_reducible exact Below.refl _ _ | (with_reducible refine Below.alloc ?_ (by simp; try omega) _))))
    have A0_0 := Lib.hid (show At V0 (w.heap.size) 33 #[.nilIface, .int .i32 0] from by rw [hV]; exact ((atNew (by simp) 33 _).alloc _))
    have A1_0 := Lib.hid (show At V0 (w.heap.size + 1) 33 #[.nilIface, .int .i32 0] from by rw [hV]; exact (atNew (by simp) 33 _))
    have zz0 : w.heap.size + 2 ≤ V0.heap.size := by rw [hV]; simp
    clear hV
    refine (ih pp V0 (by omega) (by omega) (HO.out.keep (BX0.out.mono hB)) (Nat.le_trans hB BX0.out.size)).mono ?_
    rintro e w1 ⟨d1, l1, p1, k1, S1, rfl, ⟨t1, q1, rfl⟩, f1, s1, pa1, pb1, pc1, kc1, b1⟩
    have zw1 := b1.size
    have BW1 := Lib.hid (show Below w.heap.size w w1 from BX0.out.trans (b1.mono (by omega)))
    have A0_w1 := Lib.hid (A0_0.out.below b1 (by omega))
    have A1_w1 := Lib.hid (A1_0.out.below b1 (by omega))
    have sb1 : ∀ q, S1 q → w.heap.size + 2 ≤ q ∧ q < w1.heap.size := fun q hq => ⟨by have := s1 q hq; omega, (f1.1 q hq).2⟩
    have SB1_w1 := Lib.hid sb1
    have F1_w1 := Lib.hid f1
    clear BX0 A0_0 A1_0
    clear f1 s1 b1 sb1
    have r00w1 : w1.cell? ⟨w.heap.size, 0, none⟩ = some (.nilIface) := by rw [A0_w1.out.cell]; rfl
    have r01w1 : w1.cell? ⟨w.heap.size, 1, none⟩ = some (.int .i32 0) := by rw [A0_w1.out.cell]; rfl
    have r02w1 := A0_w1.out.frozen 0
    have r03w1 := A0_w1.out.frozen 1
    have r04w1 := A0_w1.out.lt
    have r10w1 : w1.cell? ⟨w.heap.size + 1, 0, none⟩ = some (.nilIface) := by rw [A1_w1.out.cell]; rfl
    have r11w1 : w1.cell? ⟨w.heap.size + 1, 1, none⟩ = some (.int .i32 0) := by rw [A1_w1.out.cell]; rfl
    have r12w1 := A1_w1.out.frozen 0
    have r13w1 := A1_w1.out.frozen 1
    have r14w1 := A1_w1.out.lt
    have END := Lib.hid (show ∀ u0 u1, DSP base n p w (.returned (.tuple #[.agg #[.iface 152 (.pointer (some ⟨w1.heap.size, 0, none⟩)), .int .i32 0], .int .i64 p1, .int .i64 ((k1 : Nat) : Int)])) (((((w1.setCell ⟨w.heap.size + 1, 0, none⟩ (.iface t1 (.pointer (some ⟨q1, 0, none⟩)))).setCell ⟨w.heap.size + 1, 1, none⟩ (.int .i32 l1)).setCell ⟨w.heap.size, 0, none⟩ u0).setCell ⟨w.heap.size, 1, none⟩ u1).alloc (.cells #[.iface t1 (.pointer (some ⟨q1, 0, none⟩)), .int .i32 l1, .int .i32 0, .int .u32 0, .int .u32 0, .bool false] 158)) from fun u0 u1 => by
        have zk : ((w1.setCell ⟨w.heap.size + 1, 0, none⟩ (.iface t1 (.pointer (some ⟨q1, 0, none⟩)))).setCell ⟨w.heap.size + 1, 1, none⟩ (.int .i32 l1)).heap.size = w1.heap.size := by simp only [setSize]
        have h := endN (base := base) (n := n) (p := p) (p' := p1) (kk := k1) (r := w.heap.size) (k := decide (0 < k1)) (w := w) (X := ((w1.setCell ⟨w.heap.size + 1, 0, none⟩ (.iface t1 (.pointer (some ⟨q1, 0, none⟩)))).setCell ⟨w.heap.size + 1, 1, none⟩ (.int .i32 l1))) (S := fun q => S1 q) (T := 158) (bT := 152) (cs := #[.iface t1 (.pointer (some ⟨q1, 0, none⟩)), .int .i32 l1, .int .i32 0, .int .u32 0, .int .u32 0, .bool false]) hB rfl (s2below BW1.out (by omega) _ _) (by rw [zk]; omega) (fun q hq => ?_) (fun W hA hk hlt => ?_) rfl (by omega) (by omega) (fun _ => by omega) (by omega) u0 u1
        · rw [zk] at h; exact h
        · rcases hq with hq
          · have := SB1_w1.out q hq; rw [zk]; omega
        · rw [zk] at hlt
          have bnd : ∀ q, ((S1 q) ∨ q = ((w1.setCell ⟨w.heap.size + 1, 0, none⟩ (.iface t1 (.pointer (some ⟨q1, 0, none⟩)))).setCell ⟨w.heap.size + 1, 1, none⟩ (.int .i32 l1)).heap.size) → base ≤ q ∧ q < W.heap.size := fun q hq => by
            rw [zk] at hq
            rcases hq with hq | rfl
            · have := SB1_w1.out q hq; omega
            · omega
          exact skLabel _ 0 bnd (.inr rfl) (by rw [hA.cell]; rfl) (by rw [hA.cell]; rfl) ((F1_w1.out.keep (by omega) (fun q hq => (hk q hq).trans (s2far (by have := (SB1_w1.out q hq).1; omega) _ _))).more (fun q hq => .inl hq) bnd) )
    clear BW1 A0_w1 A1_w1 F1_w1 SB1_w1
    go_wp2_with fail
    exact bodyPost_ret (v := .tuple #[.agg #[.iface 152 (.pointer (some ⟨w1.heap.size, 0, none⟩)), .int .i32 0], .int .i64 p1, .int .i64 ((k1 : Nat) : Int)]) (by simp [results, Try.results13, go_sem, *]) rfl (END.out _ _)

theorem ds (base n cap : Nat) (a : Option Addr) (zs : List Int) (hn : n ≤ 4096) (hz : ∀ i, 0 ≤ zs.getD i 0 ∧ zs.getD i 0 ≤ 255) : ∀ (m p : Nat) (w : World), n - p ≤ m → p ≤ n → Ops base w a n zs → base ≤ w.heap.size → Calls Try.prog 13 #[.slice a n cap, .int .i64 p] w (DSP base n p w) := by
  intro m
  induction m with
  | zero =>
    intro p w hm hp hO hB
    obtain rfl : p = n := by omega
    exact dsOut base p cap a w hB
  | succ m ih =>
    intro p w hm hp hO hB
    by_cases hpn : p < n
    · obtain ⟨B, off, rfl, hBg, hc⟩ := hO (by omega)
      have c0 := hc p hpn
      obtain ⟨z0, z1⟩ := hz p
      obtain ⟨z, hzz⟩ : ∃ z, z = zs.getD p 0 := ⟨_, rfl⟩
      rw [← hzz] at c0 z0 z1
      rcases (show z % 16 = 0 ∨ z % 16 = 1 ∨ z % 16 = 2 ∨ z % 16 = 3 ∨ z % 16 = 4 ∨ z % 16 = 5 ∨ z % 16 = 6 ∨ z % 16 = 7 ∨ z % 16 = 8 ∨ z % 16 = 9 ∨ z % 16 = 10 ∨ z % 16 = 11 ∨ z % 16 = 12 ∨ z % 16 = 13 ∨ z % 16 = 14 ∨ z % 16 = 15 by omega) with hk | hk | hk | hk | hk | hk | hk | hk | hk | hk | hk | hk | hk | hk | hk | hk
      · exact ds0 base n cap B off zs hn hz m ih p w hm hpn hO hB z c0 z0 z1 hk
      · exact ds1 base n cap B off zs hn hz m ih p w hm hpn hO hB z c0 z0 z1 hk
      · exact ds2 base n cap B off zs hn hz m ih p w hm hpn hO hB z c0 z0 z1 hk
      · exact ds3 base n cap B off zs hn hz m ih p w hm hpn hO hB z c0 z0 z1 hk
      · exact ds4 base n cap B off zs hn hz m ih p w hm hpn hO hB z c0 z0 z1 hk
      · exact ds5 base n cap B off zs hn hz m ih p w hm hpn hO hB z c0 z0 z1 hk
      · exact ds6 base n cap B off zs hn hz m ih p w hm hpn hO hB z c0 z0 z1 hk
      · exact ds7 base n cap B off zs hn hz m ih p w hm hpn hO hB z c0 z0 z1 hk
      · exact ds8 base n cap B off zs hn hz m ih p w hm hpn hO hB z c0 z0 z1 hk
      · exact ds9 base n cap B off zs hn hz m ih p w hm hpn hO hB z c0 z0 z1 hk
      · exact ds10 base n cap B off zs hn hz m ih p w hm hpn hO hB z c0 z0 z1 hk
      · exact ds11 base n cap B off zs hn hz m ih p w hm hpn hO hB z c0 z0 z1 hk
      · exact ds12 base n cap B off zs hn hz m ih p w hm hpn hO hB z c0 z0 z1 hk
      · exact ds13 base n cap B off zs hn hz m ih p w hm hpn hO hB z c0 z0 z1 hk
      · exact ds14 base n cap B off zs hn hz m ih p w hm hpn hO hB z c0 z0 z1 hk
      · exact ds15 base n cap B off zs hn hz m ih p w hm hpn hO hB z c0 z0 z1 hk
    · obtain rfl : p = n := by omega
      exact dsOut base p cap a w hB
end Go.Proofs.Ytppcfibhpgjnoaa
