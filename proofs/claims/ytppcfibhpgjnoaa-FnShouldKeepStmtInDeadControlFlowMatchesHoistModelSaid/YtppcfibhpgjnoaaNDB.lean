/- Proved here: the contract of zzTree.node. Conditions as stated. -/
import Derived.Test.YtppcfibhpgjnoaaNDA
import Derived.WalkKit
import Derived.WalkSpells
import Derived.WalkLawsBesides
import Derived.Lib.Hide
import Derived.Lib.SliceRun
import Derived.Deep.RegionWith
import Derived.OwnWalk
import Derived.Laws.OwnMore
import Derived.Deep.AppendLies
import Derived.BigQuiet
namespace Go.Proofs.Ytppcfibhpgjnoaa
open Go.RowKit
set_option linter.unusedSimpArgs false
set_option linter.unusedVariables false

theorem anyB_succ (t : Nat → Bool) (n : Nat) : anyB t (n + 1) = (anyB t n || t n) := by simp [anyB, List.range_succ]
theorem anyB_congr {f g : Nat → Bool} {n : Nat} (h : ∀ q, q < n → f q = g q) : anyB f n = anyB g n := by
  induction n with
  | zero => rfl
  | succ n ih => rw [anyB_succ, anyB_succ, ih (fun q hq => h q (by omega)), h n (by omega)]
theorem anyB_snoc (ks : Nat → Bool) (k : Bool) (j : Nat) : anyB (fun q => if q = j then k else ks q) (j + 1) = (anyB ks j || k) := by
  rw [anyB_succ, anyB_congr (g := ks) (fun q hq => by simp; omega)]
  simp
/-- How many children a code has. -/
def ar (z : Int) : Nat := if z % 19 = 9 then (z / 19 % 4).toNat else if z % 19 = 10 ∨ z % 19 = 12 ∨ z % 19 = 13 ∨ z % 19 = 14 ∨ z % 19 = 15 then 1 else if z % 19 = 11 ∨ z % 19 = 16 ∨ z % 19 = 17 then 2 else if z % 19 = 18 then 3 else 0
/-- The counter walk over r codes from p on, m nodes owed. -/
def Kq (zs : List Int) : Nat → Nat → Nat → Bool
  | 0, _, _ => false
  | _ + 1, _, 0 => false
  | r + 1, p, m + 1 => if zs.getD p 0 % 19 = 5 ∨ zs.getD p 0 % 19 = 6 then true else Kq zs r (p + 1) (m + ar (zs.getD p 0))
def Kp (zs : List Int) (n m p : Nat) : Bool := Kq zs (n - p) p m
theorem Kp_out {zs : List Int} {n m p : Nat} (h : n ≤ p) : Kp zs n m p = false := by
  unfold Kp; rw [show n - p = 0 from by omega]; rfl
theorem Kp_zero {zs : List Int} {n p : Nat} : Kp zs n 0 p = false := by
  unfold Kp; cases n - p <;> rfl
theorem Kp_step {zs : List Int} {n m p : Nat} {z : Int} (h : p < n) (hz : zs.getD p 0 = z) (h5 : z % 19 ≠ 5) (h6 : z % 19 ≠ 6) : Kp zs n (m + 1) p = Kp zs n (m + ar z) (p + 1) := by
  subst hz
  unfold Kp
  rw [show n - p = (n - (p + 1)) + 1 from by omega]
  simp only [Kq, h5, h6, or_self, if_false]
theorem Kp_hit {zs : List Int} {n m p : Nat} {z : Int} (h : p < n) (hz : zs.getD p 0 = z) (h5 : z % 19 = 5 ∨ z % 19 = 6) : Kp zs n (m + 1) p = true := by
  subst hz
  unfold Kp
  rw [show n - p = (n - (p + 1)) + 1 from by omega]
  simp only [Kq, h5, if_true]
/-- The code: n bytes at a block below base. -/
def TN (w : World) (T : Nat) (a : Option Addr) (n cap p : Nat) (l : Int) : Prop := At w T 27 #[.slice a n cap, .int .i64 p, .int .i32 l]
def NDP (base T n cap : Nat) (a : Option Addr) (zs : List Int) (p : Nat) (W : World) (e : Ending) (w' : World) : Prop :=
  ∃ (d : Value) (l : Int) (p' : Nat) (l' : Int) (k : Bool) (S : Nat → Prop), e = .returned (.agg #[d, .int .i32 l]) ∧ IsD d ∧ SK base S w' d l k ∧ (∀ q, S q → W.heap.size ≤ q) ∧ p ≤ p' ∧ p' ≤ n ∧ (p < n → p < p') ∧ TN w' T a n cap p' l' ∧ W.grownBy w' (some T) ∧ (∀ m, Kp zs n (m + 1) p = (k || Kp zs n m p'))
theorem gDrewN {a b : World} {r : Option Nat} (h : a.grownBy b r) (k : Nat) : a.grownBy (b.drewN k) r := ⟨h.os, h.tape, h.output, h.size, h.block⟩
/-- The world in which the case begins: pos and loc stepped, the result's cell new. -/
def V0P (w : World) (T : Nat) (a : Option Addr) (n cap p : Nat) (l : Int) (V : World) : Prop := TN V T a n cap p l ∧ At V w.heap.size 33 #[.nilIface, .int .i32 0] ∧ w.grownBy V (some T) ∧ V.heap.size = w.heap.size + 1
/-- The end of a case: X is the world ahead of the builder's call, Y behind it, r the result's block. -/
theorem endN {base T n cap p p' : Nat} {a : Option Addr} {zs : List Int} {l' l : Int} {k : Bool} {w X Y : World} {S' : Nat → Prop} {bT b : Nat} (hB : base ≤ w.heap.size) (hT : T < w.heap.size) (hX : w.grownBy X (some T)) (hrx : w.heap.size < X.heap.size) (hTN : TN X T a n cap p' l') (hY : Below X.heap.size X Y) (hS' : ∀ q, S' q → w.heap.size + 1 ≤ q)
    (hSK : SK base S' Y (.iface bT (.pointer (some ⟨b, 0, none⟩))) l k)
    (hp : p ≤ p') (hp2 : p' ≤ n) (hp3 : p < n → p < p') (hK : ∀ m, Kp zs n (m + 1) p = (k || Kp zs n m p')) (u0 u1 : Value) :
    NDP base T n cap a zs p w (.returned (.agg #[.iface bT (.pointer (some ⟨b, 0, none⟩)), .int .i32 l])) ((Y.setCell ⟨w.heap.size, 0, none⟩ u0).setCell ⟨w.heap.size, 1, none⟩ u1) := by
  have zy := hY.size
  have K : ∀ q, q ≠ w.heap.size → ((Y.setCell ⟨w.heap.size, 0, none⟩ u0).setCell ⟨w.heap.size, 1, none⟩ u1).heap[q]? = Y.heap[q]? := fun q hq => by rw [Below.heap_setCell _ _ _ q (by simpa using hq), Below.heap_setCell _ _ _ q (by simpa using hq)]
  refine ⟨_, l, p', l', k, S', rfl, ⟨_, _, rfl⟩, hSK.keep (by simp [World.setCell]) (fun q hq => K q (by have := hS' q hq; omega)), fun q hq => by have := hS' q hq; omega, hp, hp2, hp3, ?_, ?_, hK⟩
  · exact (K T (by omega)).trans ((hY.block T (by omega)).trans hTN)
  · exact gSet (gSet (gTrans hX ⟨hY.os, hY.tape, hY.output, hY.size, fun k hk _ => hY.block k hk⟩ (.inl rfl)) (.inl (Nat.le_refl _)) _ _) (.inl (Nat.le_refl _)) _ _

theorem startN {w : World} {T n cap p k : Nat} {a : Option Addr} {l l1 : Int} (hTN : TN w T a n cap p l) : V0P w T a n cap (p + 1) l1 ((((w.setCell ⟨T, 2, none⟩ (.int .i32 l1)).alloc (.cells #[.nilIface, .int .i32 0] 33)).drewN k).setCell ⟨T, 1, none⟩ (.int .i64 ((p : Int) + 1))) := by
  have lT := hTN.lt
  refine ⟨?_, ?_, ?_, by simp [World.setCell]⟩
  · have h := (((hTN.set 2 (.int .i32 l1)).alloc (.cells #[.nilIface, .int .i32 0] 33)).drewN k).set 1 (.int .i64 ((p : Int) + 1))
    simpa [TN] using h
  · have h : At ((w.setCell ⟨T, 2, none⟩ (.int .i32 l1)).alloc (.cells #[.nilIface, .int .i32 0] 33)) w.heap.size 33 #[.nilIface, .int .i32 0] := atNewB (by simp [World.setCell]) _ _
    exact (h.drewN k).far (by simp; omega) _
  · exact gSet (gDrewN (gAlloc (gSet (gRefl w (some T)) (.inr rfl) 2 _) _) k) (.inr rfl) 1 _
theorem startO {w : World} {T n cap p k : Nat} {a : Option Addr} {l l1 : Int} (hTN : TN w T a n cap p l) : V0P w T a n cap p l1 (((w.setCell ⟨T, 2, none⟩ (.int .i32 l1)).alloc (.cells #[.nilIface, .int .i32 0] 33)).drewN k) := by
  have lT := hTN.lt
  refine ⟨?_, ?_, ?_, by simp [World.setCell]⟩
  · have h := ((hTN.set 2 (.int .i32 l1)).alloc (.cells #[.nilIface, .int .i32 0] 33)).drewN k
    simpa [TN] using h
  · have h : At ((w.setCell ⟨T, 2, none⟩ (.int .i32 l1)).alloc (.cells #[.nilIface, .int .i32 0] 33)) w.heap.size 33 #[.nilIface, .int .i32 0] := atNewB (by simp [World.setCell]) _ _
    exact h.drewN k
  · exact gDrewN (gAlloc (gSet (gRefl w (some T)) (.inr rfl) 2 _) _) k
/-- A child: its statement and its blocks. -/
def CH (base r : Nat) (X : World) (d : Value) (l : Int) (k : Bool) (S : Nat → Prop) : Prop := SK base S X d l k ∧ ∀ q, S q → r + 1 ≤ q ∧ q < X.heap.size
theorem CH.grown {base r T : Nat} {X Y : World} {d : Value} {l : Int} {k : Bool} {S : Nat → Prop} (h : CH base r X d l k S) (hg : X.grownBy Y (some T)) (hT : T < r + 1) : CH base r Y d l k S :=
  ⟨h.1.keep hg.size (fun q hq => hg.block q (h.2 q hq).2 (by have := (h.2 q hq).1; simp; omega)), fun q hq => ⟨(h.2 q hq).1, Nat.lt_of_lt_of_le (h.2 q hq).2 hg.size⟩⟩
theorem CH.below {base r : Nat} {X Y : World} {d : Value} {l : Int} {k : Bool} {S : Nat → Prop} (h : CH base r X d l k S) (hg : Below X.heap.size X Y) : SK base S Y d l k := h.1.keep hg.size (fun q hq => hg.block q (h.2 q hq).2)
theorem At.grown {X Y : World} {b T : Nat} {t : TypeId} {cs : Array Value} (h : At X b t cs) (hg : X.grownBy Y (some T)) (hb : b ≠ T) : At Y b t cs := (hg.block b h.lt (by simp; omega)).trans h
theorem gOne {X : World} (T : Nat) (o : Obj) : X.grownBy (X.alloc o) (some T) := gAlloc (gRefl X (some T)) o
theorem Ops.grown {base T n : Nat} {w X : World} {a : Option Addr} {zs : List Int} (h : Ops base w a n zs) (hB : base ≤ w.heap.size) (hT : base ≤ T) (hg : w.grownBy X (some T)) : Ops base X a n zs := h.keep (gBelow hg hB (fun k hk => by simp only [Option.some.injEq] at hk; omega))
def NR (base T n cap N : Nat) (a : Option Addr) (zs : List Int) (p : Nat) (w : World) (s i : Value) (wr : World) : Prop :=
  ∃ (j p' g c : Nat) (l' : Int) (xs : List Value) (ks : Nat → Bool) (S : Nat → Prop), j ≤ N ∧ i = .int .i64 j ∧ s = .slice (some ⟨g, 0, none⟩) j c ∧ p < p' ∧ p' ≤ n ∧ Hid (TN wr T a n cap p' l') ∧ Hid (wr.ownsRow (w.heap.size + 1) 33 2 (.slice (some ⟨g, 0, none⟩) j c) j xs) ∧ Hid (ItS base S wr xs j ks) ∧ Hid (∀ q, S q → w.heap.size + 1 ≤ q ∧ q < wr.heap.size) ∧ Hid (¬ S g) ∧ Hid (w.grownBy wr (some T)) ∧ Hid (At wr w.heap.size 33 #[.nilIface, .int .i32 0]) ∧ Hid (∀ m, Kp zs n (m + 1) p = (anyB ks j || Kp zs n (m + (N - j)) p'))
theorem stepN {base T n cap N p j p' g c p2 g' c' ty bq : Nat} {l2 l : Int} {a : Option Addr} {zs : List Int} {xs : List Value} {ks : Nat → Bool} {k2 : Bool} {S S2 : Nat → Prop} {w wr w2 w3 : World}
    (hB : base ≤ w.heap.size) (hT : T < w.heap.size) (hj : j < N) (hp : p < p') (hp3 : p' ≤ p2) (hp4 : p2 ≤ n)
    (HW : wr.ownsRow (w.heap.size + 1) 33 2 (.slice (some ⟨g, 0, none⟩) j c) j xs) (HT : ItS base S wr xs j ks) (HS : ∀ q, S q → w.heap.size + 1 ≤ q ∧ q < wr.heap.size) (HG : ¬ S g) (HX : w.grownBy wr (some T)) (HA : At wr w.heap.size 33 #[.nilIface, .int .i32 0]) (HK : ∀ m, Kp zs n (m + 1) p = (anyB ks j || Kp zs n (m + (N - j)) p'))
    (hfi : SK base S2 w2 (.iface ty (.pointer (some ⟨bq, 0, none⟩))) l k2) (hS2 : ∀ q, S2 q → wr.heap.size ≤ q) (hTN2 : TN w2 T a n cap p2 l2) (hg2 : wr.grownBy w2 (some T)) (hK2 : ∀ m, Kp zs n (m + 1) p' = (k2 || Kp zs n m p2))
    (o : Obj) (ho3 : w3.ownsRow (w.heap.size + 1) 33 2 (.slice (some ⟨g', 0, none⟩) (j + 1) c') (j + 1) (xs ++ [.iface ty (.pointer (some ⟨bq, 0, none⟩)), .int .i32 l])) (hg3 : (w2.alloc o).grownBy w3 (some g)) (hlie : some g = some g' ∨ g' = w2.heap.size + 1) :
    NR base T n cap N a zs p w (.slice (some ⟨g', 0, none⟩) (j + 1) c') (.int .i64 ((j + 1 : Nat) : Int)) w3 := by
  have zg := World.ownsRow.lt HW g rfl
  have z1 := HX.size
  have z2 := hg2.size
  have z3 : w2.heap.size + 1 ≤ w3.heap.size := by have := hg3.size; simpa using this
  have K2 : ∀ q, q < wr.heap.size → q ≠ T → w2.heap[q]? = wr.heap[q]? := fun q hq hn => hg2.block q hq (by simp; omega)
  have K3 : ∀ q, q < w2.heap.size → q ≠ g → w3.heap[q]? = w2.heap[q]? := fun q hq hg => (hg3.block q (by simp; omega) (by simp; omega)).trans (Below.heap_alloc _ _ q hq)
  have S2lt := fun q hq => (hfi.1 q hq).2
  have hr := HA.lt
  have GW : w.grownBy w3 (some T) := gTrans (gAlloc (gTrans HX hg2 (.inl rfl)) o) hg3 (.inr (.inr ⟨g, rfl, by omega⟩))
  refine ⟨j + 1, p2, g', c', l2, xs ++ [.iface ty (.pointer (some ⟨bq, 0, none⟩)), .int .i32 l], fun q => if q = j then k2 else ks q, fun q => S q ∨ S2 q, by omega, rfl, rfl, by omega, hp4, Lib.hid ?_, Lib.hid ho3, Lib.hid ?_, Lib.hid ?_, Lib.hid ?_, Lib.hid GW, Lib.hid ?_, Lib.hid ?_⟩
  · exact (K3 T hTN2.lt (by omega)).trans hTN2
  · have bnd : ∀ q, (S q ∨ S2 q) → base ≤ q ∧ q < w3.heap.size := fun q hq => by
      rcases hq with hq | hq
      · have := HS q hq; omega
      · have := hfi.1 q hq; omega
    refine ItS.snoc ((HT.keep (by omega) (fun q hq => ?_)).more (fun _ h => .inl h) bnd) _ _ _ ⟨_, _, rfl⟩ ((hfi.keep (by omega) (fun q hq => ?_)).more (fun _ h => .inr h) bnd)
    · have h := HS q hq
      exact (K3 q (by omega) (fun e => HG (e ▸ hq))).trans (K2 q h.2 (by omega))
    · exact K3 q (S2lt q hq) (by have := hS2 q hq; omega)
  · intro q hq
    rcases hq with hq | hq
    · have := HS q hq; omega
    · have := S2lt q hq; have := hS2 q hq; omega
  · intro hq
    rcases hlie with h | h
    · simp only [Option.some.injEq] at h
      subst h
      rcases hq with hq | hq
      · exact HG hq
      · have := hS2 _ hq; omega
    · subst h
      rcases hq with hq | hq
      · have := (HS _ hq).2; omega
      · have := S2lt _ hq; omega
  · exact (K3 _ (by omega) (by omega)).trans ((K2 _ hr (by omega)).trans HA)
  · intro q
    rw [HK q, anyB_snoc, show q + (N - j) = (q + (N - (j + 1))) + 1 from by omega, hK2, Bool.or_assoc]
/-- A row of one statement. -/
theorem one1 {X : World} {R B : Nat} {d : Value} {l : Int} (h : At X R 33 #[d, .int .i32 l]) (hB : B ≤ R) : X.ownsRow B 33 2 (.slice (some ⟨R, 0, none⟩) 1 1) 1 [d, .int .i32 l] :=
  ⟨rfl, .inr ⟨R, 1, #[d, .int .i32 l], rfl, hB, h, Nat.le_refl _, by simp [maxLen], rfl, rfl⟩⟩
theorem klOne {base R : Nat} {X : World} {ty bq : Nat} {l : Int} {k : Bool} {S : Nat → Prop} (hR : base ≤ R) (hl : R < X.heap.size) (h : At X R 33 #[.iface ty (.pointer (some ⟨bq, 0, none⟩)), .int .i32 l]) (hs : SK base S X (.iface ty (.pointer (some ⟨bq, 0, none⟩))) l k) : KL base (fun q => S q ∨ q = R) X (.slice (some ⟨R, 0, none⟩) 1 1) k := by
  have bnd : ∀ q, (S q ∨ q = R) → base ≤ q ∧ q < X.heap.size := fun q hq => by
    rcases hq with hq | rfl
    · exact hs.1 q hq
    · exact ⟨hR, hl⟩
  have h1 : ItS base (fun q => S q ∨ q = R) X [.iface ty (.pointer (some ⟨bq, 0, none⟩)), .int .i32 l] 1 (fun _ => k) := ⟨rfl, fun q hq => by
    obtain rfl : q = 0 := by omega
    exact ⟨_, l, ⟨_, _, rfl⟩, hs.more (fun _ h => .inl h) bnd, rfl, rfl⟩⟩
  have h2 := klOf (B := base) (.inr rfl) (one1 h hR) h1 bnd (by omega)
  have e : anyB (fun _ => k) 1 = k := by simp [anyB]
  rw [e] at h2
  exact h2

theorem infoSN : (Try.prog.info? 33).map (fun i => (i.zero, i.size, i.bytes)) = some (some (.agg #[.nilIface, .int .i32 0]), 2, 24) := by kernel_rfl
set_option maxRecDepth 100000 in
set_option maxHeartbeats 1000000 in
theorem fiArr0 (S : Nat → Prop) (b : Nat) (l : Int) (w : World) (hb : S b) (h0 : w.cell? ⟨b, 0, none⟩ = some (.slice none 0 0)) (hS : ∀ k, S k → k < w.heap.size) : FI S w (.iface 48 (.pointer (some ⟨b, 0, none⟩))) l [] := by
  refine ⟨hS, ?_⟩
  intro W hW base v m xs ho hd hbase hm
  have e0 : W.cell? ⟨b, 0, none⟩ = some (.slice none 0 0) := (World.cell?_of_block (a := ⟨b, 0, none⟩) (hW b hb)).trans h0
  have lb : b < W.heap.size := World.block_lt_of_cell? _ _ e0
  have HO := Lib.hid ho
  clear ho hd hW hS h0
  go_enter Try.func45, Try.ntmps45
  go_wp2_with fail
  go_loopw [1, 30] (fun s i wr => s = v ∧ i = .int .i64 0 ∧ Hid (wr.ownsRow base 67 4 v m xs) ∧ Hid (W.grownBy wr v.ownBlock)) (fun _ _ _ => 0)
  case atStart => exact ⟨rfl, rfl, Lib.hid (HO.out.alloc _), Lib.hid (gAlloc (gRefl _ _) _)⟩
  case round =>
    obtain ⟨rfl, rfl, HX, HG⟩ := hrel
    go_wp2_with fail
    go_ret
    exact ⟨_, rfl, by simpa [dcells] using HX.out, HG.out, Lies.refl _ _⟩

set_option maxRecDepth 100000 in
set_option maxHeartbeats 8000000 in
theorem ndOut (base n cap T : Nat) (a : Option Addr) (zs : List Int) (hbT : base ≤ T) (p : Nat) (l : Int) (w : World) (hp : p = n) (hTN : TN w T a n cap p l) :
    Calls Try.prog 9 #[.pointer (some ⟨T, 0, none⟩)] w (NDP base T n cap a zs p w) := by
  have HTN := Lib.hid hTN
  have lT := hTN.lt
  have t0 : w.cell? ⟨T, 0, none⟩ = some (.slice a n cap) := by rw [hTN.cell]; rfl
  have t1 : w.cell? ⟨T, 1, none⟩ = some (.int .i64 p) := by rw [hTN.cell]; rfl
  have t2 : w.cell? ⟨T, 2, none⟩ = some (.int .i32 l) := by rw [hTN.cell]; rfl
  have f0 := hTN.frozen 0
  have f1 := hTN.frozen 1
  have f2 := hTN.frozen 2
  subst hp
  have p2 : decide ((p : Int) ≥ (p : Int)) = true := by simp
  have p3 : decide ((p : Int) ≤ (p : Int)) = true := by simp
  clear hTN
  go_enter Try.func9, Try.ntmps9
  go_wp2_with fail
  go_quiet (fail)
  go_wp2_with fail
  obtain ⟨l1, hl1⟩ : ∃ x, x = wrap32 (l + 1) := ⟨_, rfl⟩
  rw [← hl1]
  obtain ⟨V0, hV⟩ : ∃ V, V = (((w.setCell ⟨T, 2, none⟩ (.int .i32 l1)).alloc (.cells #[.nilIface, .int .i32 0] 33)).drewN nq) := ⟨_, rfl⟩
  have HV := Lib.hid (show V0P w T a p cap p l1 V0 from by rw [hV]; exact startO HTN.out)
  rw [← hV]
  have zV := HV.out.2.2.2
  have hB : base ≤ w.heap.size := by omega
  have HT0 := Lib.hid HV.out.1
  have HR0 := Lib.hid HV.out.2.1
  have HG0 := Lib.hid HV.out.2.2.1
  clear hl1 hV HV t0 t1 t2 f0 f1 f2 p2 p3 HTN
  refine (bEmpty l1 V0).mono ?_
  rintro e Y ⟨b, rfl, hA, hb, hw⟩
  have END := Lib.hid (show ∀ u0 u1, NDP base T p cap a zs p w (.returned (.agg #[.iface 88 (.pointer (some ⟨b, 0, none⟩)), .int .i32 l1])) ((Y.setCell ⟨w.heap.size, 0, none⟩ u0).setCell ⟨w.heap.size, 1, none⟩ u1) from fun u0 u1 => by
    exact endN (X := V0) (S' := fun _ => False) (k := false) hB lT HG0.out (by omega) HT0.out hw (fun q hq => hq.elim) (skEmpty base b l1 Y) (by omega) (by omega) (fun _ => by omega) (fun mm => by rw [Kp_out (Nat.le_refl _), Kp_out (Nat.le_refl _)]; rfl) u0 u1)
  have HRY := HR0.out.below hw (by omega)
  have r0 : Y.cell? ⟨w.heap.size, 0, none⟩ = some .nilIface := by rw [HRY.cell]; rfl
  have r1 : Y.cell? ⟨w.heap.size, 1, none⟩ = some (.int .i32 0) := by rw [HRY.cell]; rfl
  have g0 := HRY.frozen 0
  have g1 := HRY.frozen 1
  have lr := HRY.lt
  clear HRY hA hw HG0 HR0 HT0
  go_wp2_with fail
  exact bodyPost_ret (v := .agg #[.iface 88 (.pointer (some ⟨b, 0, none⟩)), .int .i32 l1]) (by simp [results, Try.results9, go_sem, *]) rfl (END.out _ _)

set_option maxRecDepth 100000 in
set_option maxHeartbeats 8000000 in
theorem nd0 (base n cap B off T : Nat) (zs : List Int) (hn : n ≤ 4096) (hz : ∀ i, 0 ≤ zs.getD i 0 ∧ zs.getD i 0 ≤ 255) (hbT : base ≤ T) (m : Nat) (ih : ∀ (p : Nat) (l : Int) (w : World), n - p ≤ m → p ≤ n → TN w T (some ⟨B, off, none⟩) n cap p l → Ops base w (some ⟨B, off, none⟩) n zs → Calls Try.prog 9 #[.pointer (some ⟨T, 0, none⟩)] w (NDP base T n cap (some ⟨B, off, none⟩) zs p w)) (p : Nat) (l : Int) (w : World) (hm : n - p ≤ m + 1) (hpn : p < n) (hTN : TN w T (some ⟨B, off, none⟩) n cap p l) (hO : Ops base w (some ⟨B, off, none⟩) n zs) (hBb : B < base) (z : Int) (c0 : w.cell? ⟨B, off + p, none⟩ = some (.int .u8 z)) (hzz : zs.getD p 0 = z) (z0 : 0 ≤ z) (z1 : z ≤ 255) (hk : z % 19 = 0) :
    Calls Try.prog 9 #[.pointer (some ⟨T, 0, none⟩)] w (NDP base T n cap (some ⟨B, off, none⟩) zs p w) := by
  have HO := Lib.hid hO
  have HZ := Lib.hid hz
  have HTN := Lib.hid hTN
  have lB : B < w.heap.size := World.block_lt_of_cell? _ _ c0
  have lT := hTN.lt
  have nTB : ¬ T = B := by omega
  have nBT : ¬ B = T := by omega
  have t0 : w.cell? ⟨T, 0, none⟩ = some (.slice (some ⟨B, off, none⟩) n cap) := by rw [hTN.cell]; rfl
  have t1 : w.cell? ⟨T, 1, none⟩ = some (.int .i64 p) := by rw [hTN.cell]; rfl
  have t2 : w.cell? ⟨T, 2, none⟩ = some (.int .i32 l) := by rw [hTN.cell]; rfl
  have f0 := hTN.frozen 0
  have f1 := hTN.frozen 1
  have f2 := hTN.frozen 2
  have p0 : (0 : Int) ≤ (p : Int) := Int.natCast_nonneg _
  have p1 : (p : Int) < (n : Int) := by omega
  have p2 : decide ((p : Int) ≥ (n : Int)) = false := by simp; omega
  have p3 : decide ((n : Int) ≤ (p : Int)) = false := by simp; omega
  clear hO hz hTN
  go_enter Try.func9, Try.ntmps9
  go_wp2_with fail
  go_quiet (fail)
  generalize nq = q1
  go_wp2_with fail
  go_quiet (fail)
  go_wp2_with fail
  obtain ⟨l1, hl1⟩ : ∃ x, x = wrap32 (l + 1) := ⟨_, rfl⟩
  rw [← hl1]
  obtain ⟨V0, hV⟩ : ∃ V, V = ((((w.setCell ⟨T, 2, none⟩ (.int .i32 l1)).alloc (.cells #[.nilIface, .int .i32 0] 33)).drewN (q1 + nq)).setCell ⟨T, 1, none⟩ (.int .i64 ((p : Int) + 1))) := ⟨_, rfl⟩
  have HV := Lib.hid (show V0P w T (some ⟨B, off, none⟩) n cap (p + 1) l1 V0 from by rw [hV]; exact startN HTN.out)
  rw [← hV]
  have zV := HV.out.2.2.2
  have hB : base ≤ w.heap.size := by omega
  have HT0 := Lib.hid HV.out.1
  have HR0 := Lib.hid HV.out.2.1
  have HG0 := Lib.hid HV.out.2.2.1
  have zz0 : w.heap.size + 1 ≤ V0.heap.size := by omega
  clear hl1 hV HV zV c0 t0 t1 t2 f0 f1 f2 p0 p1 p2 p3 HTN
  refine (bEmpty l1 V0).mono ?_
  rintro e Y ⟨b, rfl, hA, hb, hw⟩
  have END := Lib.hid (show ∀ u0 u1, NDP base T n cap (some ⟨B, off, none⟩) zs p w (.returned (.agg #[.iface 88 (.pointer (some ⟨b, 0, none⟩)), .int .i32 l1])) ((Y.setCell ⟨w.heap.size, 0, none⟩ u0).setCell ⟨w.heap.size, 1, none⟩ u1) from fun u0 u1 => by
      exact endN (X := V0) (S' := fun _ => False) hB lT HG0.out (by omega) HT0.out hw (fun q hq => hq.elim) (skEmpty base b l1 Y) (by omega) (by omega) (fun _ => by omega) (fun mm => by rw [Kp_step hpn hzz (by omega) (by omega), show ar z = 0 from by simp [ar, hk]]; simp) u0 u1)
  have HRY := HR0.out.below hw (by omega)
  have r0 : Y.cell? ⟨w.heap.size, 0, none⟩ = some .nilIface := by rw [HRY.cell]; rfl
  have r1 : Y.cell? ⟨w.heap.size, 1, none⟩ = some (.int .i32 0) := by rw [HRY.cell]; rfl
  have g0 := HRY.frozen 0
  have g1 := HRY.frozen 1
  have lr := HRY.lt
  clear HRY hA hw HG0 HR0 HT0
  go_wp2_with fail
  exact bodyPost_ret (v := .agg #[.iface 88 (.pointer (some ⟨b, 0, none⟩)), .int .i32 l1]) (by simp [results, Try.results9, go_sem, *]) rfl (END.out _ _)

set_option maxRecDepth 100000 in
set_option maxHeartbeats 8000000 in
theorem nd1 (base n cap B off T : Nat) (zs : List Int) (hn : n ≤ 4096) (hz : ∀ i, 0 ≤ zs.getD i 0 ∧ zs.getD i 0 ≤ 255) (hbT : base ≤ T) (m : Nat) (ih : ∀ (p : Nat) (l : Int) (w : World), n - p ≤ m → p ≤ n → TN w T (some ⟨B, off, none⟩) n cap p l → Ops base w (some ⟨B, off, none⟩) n zs → Calls Try.prog 9 #[.pointer (some ⟨T, 0, none⟩)] w (NDP base T n cap (some ⟨B, off, none⟩) zs p w)) (p : Nat) (l : Int) (w : World) (hm : n - p ≤ m + 1) (hpn : p < n) (hTN : TN w T (some ⟨B, off, none⟩) n cap p l) (hO : Ops base w (some ⟨B, off, none⟩) n zs) (hBb : B < base) (z : Int) (c0 : w.cell? ⟨B, off + p, none⟩ = some (.int .u8 z)) (hzz : zs.getD p 0 = z) (z0 : 0 ≤ z) (z1 : z ≤ 255) (hk : z % 19 = 1) :
    Calls Try.prog 9 #[.pointer (some ⟨T, 0, none⟩)] w (NDP base T n cap (some ⟨B, off, none⟩) zs p w) := by
  have HO := Lib.hid hO
  have HZ := Lib.hid hz
  have HTN := Lib.hid hTN
  have lB : B < w.heap.size := World.block_lt_of_cell? _ _ c0
  have lT := hTN.lt
  have nTB : ¬ T = B := by omega
  have nBT : ¬ B = T := by omega
  have t0 : w.cell? ⟨T, 0, none⟩ = some (.slice (some ⟨B, off, none⟩) n cap) := by rw [hTN.cell]; rfl
  have t1 : w.cell? ⟨T, 1, none⟩ = some (.int .i64 p) := by rw [hTN.cell]; rfl
  have t2 : w.cell? ⟨T, 2, none⟩ = some (.int .i32 l) := by rw [hTN.cell]; rfl
  have f0 := hTN.frozen 0
  have f1 := hTN.frozen 1
  have f2 := hTN.frozen 2
  have p0 : (0 : Int) ≤ (p : Int) := Int.natCast_nonneg _
  have p1 : (p : Int) < (n : Int) := by omega
  have p2 : decide ((p : Int) ≥ (n : Int)) = false := by simp; omega
  have p3 : decide ((n : Int) ≤ (p : Int)) = false := by simp; omega
  clear hO hz hTN
  go_enter Try.func9, Try.ntmps9
  go_wp2_with fail
  go_quiet (fail)
  generalize nq = q1
  go_wp2_with fail
  go_quiet (fail)
  go_wp2_with fail
  obtain ⟨l1, hl1⟩ : ∃ x, x = wrap32 (l + 1) := ⟨_, rfl⟩
  rw [← hl1]
  obtain ⟨V0, hV⟩ : ∃ V, V = ((((w.setCell ⟨T, 2, none⟩ (.int .i32 l1)).alloc (.cells #[.nilIface, .int .i32 0] 33)).drewN (q1 + nq)).setCell ⟨T, 1, none⟩ (.int .i64 ((p : Int) + 1))) := ⟨_, rfl⟩
  have HV := Lib.hid (show V0P w T (some ⟨B, off, none⟩) n cap (p + 1) l1 V0 from by rw [hV]; exact startN HTN.out)
  rw [← hV]
  have zV := HV.out.2.2.2
  have hB : base ≤ w.heap.size := by omega
  have HT0 := Lib.hid HV.out.1
  have HR0 := Lib.hid HV.out.2.1
  have HG0 := Lib.hid HV.out.2.2.1
  have zz0 : w.heap.size + 1 ≤ V0.heap.size := by omega
  clear hl1 hV HV zV c0 t0 t1 t2 f0 f1 f2 p0 p1 p2 p3 HTN
  refine (bDebugger l1 V0).mono ?_
  rintro e Y ⟨b, rfl, hA, hb, hw⟩
  have END := Lib.hid (show ∀ u0 u1, NDP base T n cap (some ⟨B, off, none⟩) zs p w (.returned (.agg #[.iface 115 (.pointer (some ⟨b, 0, none⟩)), .int .i32 l1])) ((Y.setCell ⟨w.heap.size, 0, none⟩ u0).setCell ⟨w.heap.size, 1, none⟩ u1) from fun u0 u1 => by
      exact endN (X := V0) (S' := fun _ => False) hB lT HG0.out (by omega) HT0.out hw (fun q hq => hq.elim) (skDebugger base b l1 Y) (by omega) (by omega) (fun _ => by omega) (fun mm => by rw [Kp_step hpn hzz (by omega) (by omega), show ar z = 0 from by simp [ar, hk]]; simp) u0 u1)
  have HRY := HR0.out.below hw (by omega)
  have r0 : Y.cell? ⟨w.heap.size, 0, none⟩ = some .nilIface := by rw [HRY.cell]; rfl
  have r1 : Y.cell? ⟨w.heap.size, 1, none⟩ = some (.int .i32 0) := by rw [HRY.cell]; rfl
  have g0 := HRY.frozen 0
  have g1 := HRY.frozen 1
  have lr := HRY.lt
  clear HRY hA hw HG0 HR0 HT0
  go_wp2_with fail
  exact bodyPost_ret (v := .agg #[.iface 115 (.pointer (some ⟨b, 0, none⟩)), .int .i32 l1]) (by simp [results, Try.results9, go_sem, *]) rfl (END.out _ _)

set_option maxRecDepth 100000 in
set_option maxHeartbeats 8000000 in
theorem nd2 (base n cap B off T : Nat) (zs : List Int) (hn : n ≤ 4096) (hz : ∀ i, 0 ≤ zs.getD i 0 ∧ zs.getD i 0 ≤ 255) (hbT : base ≤ T) (m : Nat) (ih : ∀ (p : Nat) (l : Int) (w : World), n - p ≤ m → p ≤ n → TN w T (some ⟨B, off, none⟩) n cap p l → Ops base w (some ⟨B, off, none⟩) n zs → Calls Try.prog 9 #[.pointer (some ⟨T, 0, none⟩)] w (NDP base T n cap (some ⟨B, off, none⟩) zs p w)) (p : Nat) (l : Int) (w : World) (hm : n - p ≤ m + 1) (hpn : p < n) (hTN : TN w T (some ⟨B, off, none⟩) n cap p l) (hO : Ops base w (some ⟨B, off, none⟩) n zs) (hBb : B < base) (z : Int) (c0 : w.cell? ⟨B, off + p, none⟩ = some (.int .u8 z)) (hzz : zs.getD p 0 = z) (z0 : 0 ≤ z) (z1 : z ≤ 255) (hk : z % 19 = 2) :
    Calls Try.prog 9 #[.pointer (some ⟨T, 0, none⟩)] w (NDP base T n cap (some ⟨B, off, none⟩) zs p w) := by
  have HO := Lib.hid hO
  have HZ := Lib.hid hz
  have HTN := Lib.hid hTN
  have lB : B < w.heap.size := World.block_lt_of_cell? _ _ c0
  have lT := hTN.lt
  have nTB : ¬ T = B := by omega
  have nBT : ¬ B = T := by omega
  have t0 : w.cell? ⟨T, 0, none⟩ = some (.slice (some ⟨B, off, none⟩) n cap) := by rw [hTN.cell]; rfl
  have t1 : w.cell? ⟨T, 1, none⟩ = some (.int .i64 p) := by rw [hTN.cell]; rfl
  have t2 : w.cell? ⟨T, 2, none⟩ = some (.int .i32 l) := by rw [hTN.cell]; rfl
  have f0 := hTN.frozen 0
  have f1 := hTN.frozen 1
  have f2 := hTN.frozen 2
  have p0 : (0 : Int) ≤ (p : Int) := Int.natCast_nonneg _
  have p1 : (p : Int) < (n : Int) := by omega
  have p2 : decide ((p : Int) ≥ (n : Int)) = false := by simp; omega
  have p3 : decide ((n : Int) ≤ (p : Int)) = false := by simp; omega
  clear hO hz hTN
  go_enter Try.func9, Try.ntmps9
  go_wp2_with fail
  go_quiet (fail)
  generalize nq = q1
  go_wp2_with fail
  go_quiet (fail)
  go_wp2_with fail
  obtain ⟨l1, hl1⟩ : ∃ x, x = wrap32 (l + 1) := ⟨_, rfl⟩
  rw [← hl1]
  obtain ⟨V0, hV⟩ : ∃ V, V = ((((w.setCell ⟨T, 2, none⟩ (.int .i32 l1)).alloc (.cells #[.nilIface, .int .i32 0] 33)).drewN (q1 + nq)).setCell ⟨T, 1, none⟩ (.int .i64 ((p : Int) + 1))) := ⟨_, rfl⟩
  have HV := Lib.hid (show V0P w T (some ⟨B, off, none⟩) n cap (p + 1) l1 V0 from by rw [hV]; exact startN HTN.out)
  rw [← hV]
  have zV := HV.out.2.2.2
  have hB : base ≤ w.heap.size := by omega
  have HT0 := Lib.hid HV.out.1
  have HR0 := Lib.hid HV.out.2.1
  have HG0 := Lib.hid HV.out.2.2.1
  have zz0 : w.heap.size + 1 ≤ V0.heap.size := by omega
  clear hl1 hV HV zV c0 t0 t1 t2 f0 f1 f2 p0 p1 p2 p3 HTN
  refine (bBreak l1 V0).mono ?_
  rintro e Y ⟨b, rfl, hA, hb, hw⟩
  have END := Lib.hid (show ∀ u0 u1, NDP base T n cap (some ⟨B, off, none⟩) zs p w (.returned (.agg #[.iface 100 (.pointer (some ⟨b, 0, none⟩)), .int .i32 l1])) ((Y.setCell ⟨w.heap.size, 0, none⟩ u0).setCell ⟨w.heap.size, 1, none⟩ u1) from fun u0 u1 => by
      exact endN (X := V0) (S' := fun _ => False) hB lT HG0.out (by omega) HT0.out hw (fun q hq => hq.elim) (skBreak base b l1 Y) (by omega) (by omega) (fun _ => by omega) (fun mm => by rw [Kp_step hpn hzz (by omega) (by omega), show ar z = 0 from by simp [ar, hk]]; simp) u0 u1)
  have HRY := HR0.out.below hw (by omega)
  have r0 : Y.cell? ⟨w.heap.size, 0, none⟩ = some .nilIface := by rw [HRY.cell]; rfl
  have r1 : Y.cell? ⟨w.heap.size, 1, none⟩ = some (.int .i32 0) := by rw [HRY.cell]; rfl
  have g0 := HRY.frozen 0
  have g1 := HRY.frozen 1
  have lr := HRY.lt
  clear HRY hA hw HG0 HR0 HT0
  go_wp2_with fail
  exact bodyPost_ret (v := .agg #[.iface 100 (.pointer (some ⟨b, 0, none⟩)), .int .i32 l1]) (by simp [results, Try.results9, go_sem, *]) rfl (END.out _ _)

set_option maxRecDepth 100000 in
set_option maxHeartbeats 8000000 in
theorem nd3 (base n cap B off T : Nat) (zs : List Int) (hn : n ≤ 4096) (hz : ∀ i, 0 ≤ zs.getD i 0 ∧ zs.getD i 0 ≤ 255) (hbT : base ≤ T) (m : Nat) (ih : ∀ (p : Nat) (l : Int) (w : World), n - p ≤ m → p ≤ n → TN w T (some ⟨B, off, none⟩) n cap p l → Ops base w (some ⟨B, off, none⟩) n zs → Calls Try.prog 9 #[.pointer (some ⟨T, 0, none⟩)] w (NDP base T n cap (some ⟨B, off, none⟩) zs p w)) (p : Nat) (l : Int) (w : World) (hm : n - p ≤ m + 1) (hpn : p < n) (hTN : TN w T (some ⟨B, off, none⟩) n cap p l) (hO : Ops base w (some ⟨B, off, none⟩) n zs) (hBb : B < base) (z : Int) (c0 : w.cell? ⟨B, off + p, none⟩ = some (.int .u8 z)) (hzz : zs.getD p 0 = z) (z0 : 0 ≤ z) (z1 : z ≤ 255) (hk : z % 19 = 3) :
    Calls Try.prog 9 #[.pointer (some ⟨T, 0, none⟩)] w (NDP base T n cap (some ⟨B, off, none⟩) zs p w) := by
  have HO := Lib.hid hO
  have HZ := Lib.hid hz
  have HTN := Lib.hid hTN
  have lB : B < w.heap.size := World.block_lt_of_cell? _ _ c0
  have lT := hTN.lt
  have nTB : ¬ T = B := by omega
  have nBT : ¬ B = T := by omega
  have t0 : w.cell? ⟨T, 0, none⟩ = some (.slice (some ⟨B, off, none⟩) n cap) := by rw [hTN.cell]; rfl
  have t1 : w.cell? ⟨T, 1, none⟩ = some (.int .i64 p) := by rw [hTN.cell]; rfl
  have t2 : w.cell? ⟨T, 2, none⟩ = some (.int .i32 l) := by rw [hTN.cell]; rfl
  have f0 := hTN.frozen 0
  have f1 := hTN.frozen 1
  have f2 := hTN.frozen 2
  have p0 : (0 : Int) ≤ (p : Int) := Int.natCast_nonneg _
  have p1 : (p : Int) < (n : Int) := by omega
  have p2 : decide ((p : Int) ≥ (n : Int)) = false := by simp; omega
  have p3 : decide ((n : Int) ≤ (p : Int)) = false := by simp; omega
  clear hO hz hTN
  go_enter Try.func9, Try.ntmps9
  go_wp2_with fail
  go_quiet (fail)
  generalize nq = q1
  go_wp2_with fail
  go_quiet (fail)
  go_wp2_with fail
  obtain ⟨l1, hl1⟩ : ∃ x, x = wrap32 (l + 1) := ⟨_, rfl⟩
  rw [← hl1]
  obtain ⟨V0, hV⟩ : ∃ V, V = ((((w.setCell ⟨T, 2, none⟩ (.int .i32 l1)).alloc (.cells #[.nilIface, .int .i32 0] 33)).drewN (q1 + nq)).setCell ⟨T, 1, none⟩ (.int .i64 ((p : Int) + 1))) := ⟨_, rfl⟩
  have HV := Lib.hid (show V0P w T (some ⟨B, off, none⟩) n cap (p + 1) l1 V0 from by rw [hV]; exact startN HTN.out)
  rw [← hV]
  have zV := HV.out.2.2.2
  have hB : base ≤ w.heap.size := by omega
  have HT0 := Lib.hid HV.out.1
  have HR0 := Lib.hid HV.out.2.1
  have HG0 := Lib.hid HV.out.2.2.1
  have zz0 : w.heap.size + 1 ≤ V0.heap.size := by omega
  clear hl1 hV HV zV c0 t0 t1 t2 f0 f1 f2 p0 p1 p2 p3 HTN
  refine (bContinue l1 V0).mono ?_
  rintro e Y ⟨b, rfl, hA, hb, hw⟩
  have END := Lib.hid (show ∀ u0 u1, NDP base T n cap (some ⟨B, off, none⟩) zs p w (.returned (.agg #[.iface 104 (.pointer (some ⟨b, 0, none⟩)), .int .i32 l1])) ((Y.setCell ⟨w.heap.size, 0, none⟩ u0).setCell ⟨w.heap.size, 1, none⟩ u1) from fun u0 u1 => by
      exact endN (X := V0) (S' := fun _ => False) hB lT HG0.out (by omega) HT0.out hw (fun q hq => hq.elim) (skContinue base b l1 Y) (by omega) (by omega) (fun _ => by omega) (fun mm => by rw [Kp_step hpn hzz (by omega) (by omega), show ar z = 0 from by simp [ar, hk]]; simp) u0 u1)
  have HRY := HR0.out.below hw (by omega)
  have r0 : Y.cell? ⟨w.heap.size, 0, none⟩ = some .nilIface := by rw [HRY.cell]; rfl
  have r1 : Y.cell? ⟨w.heap.size, 1, none⟩ = some (.int .i32 0) := by rw [HRY.cell]; rfl
  have g0 := HRY.frozen 0
  have g1 := HRY.frozen 1
  have lr := HRY.lt
  clear HRY hA hw HG0 HR0 HT0
  go_wp2_with fail
  exact bodyPost_ret (v := .agg #[.iface 104 (.pointer (some ⟨b, 0, none⟩)), .int .i32 l1]) (by simp [results, Try.results9, go_sem, *]) rfl (END.out _ _)

set_option maxRecDepth 100000 in
set_option maxHeartbeats 8000000 in
theorem nd4 (base n cap B off T : Nat) (zs : List Int) (hn : n ≤ 4096) (hz : ∀ i, 0 ≤ zs.getD i 0 ∧ zs.getD i 0 ≤ 255) (hbT : base ≤ T) (m : Nat) (ih : ∀ (p : Nat) (l : Int) (w : World), n - p ≤ m → p ≤ n → TN w T (some ⟨B, off, none⟩) n cap p l → Ops base w (some ⟨B, off, none⟩) n zs → Calls Try.prog 9 #[.pointer (some ⟨T, 0, none⟩)] w (NDP base T n cap (some ⟨B, off, none⟩) zs p w)) (p : Nat) (l : Int) (w : World) (hm : n - p ≤ m + 1) (hpn : p < n) (hTN : TN w T (some ⟨B, off, none⟩) n cap p l) (hO : Ops base w (some ⟨B, off, none⟩) n zs) (hBb : B < base) (z : Int) (c0 : w.cell? ⟨B, off + p, none⟩ = some (.int .u8 z)) (hzz : zs.getD p 0 = z) (z0 : 0 ≤ z) (z1 : z ≤ 255) (hk : z % 19 = 4) :
    Calls Try.prog 9 #[.pointer (some ⟨T, 0, none⟩)] w (NDP base T n cap (some ⟨B, off, none⟩) zs p w) := by
  have HO := Lib.hid hO
  have HZ := Lib.hid hz
  have HTN := Lib.hid hTN
  have lB : B < w.heap.size := World.block_lt_of_cell? _ _ c0
  have lT := hTN.lt
  have nTB : ¬ T = B := by omega
  have nBT : ¬ B = T := by omega
  have t0 : w.cell? ⟨T, 0, none⟩ = some (.slice (some ⟨B, off, none⟩) n cap) := by rw [hTN.cell]; rfl
  have t1 : w.cell? ⟨T, 1, none⟩ = some (.int .i64 p) := by rw [hTN.cell]; rfl
  have t2 : w.cell? ⟨T, 2, none⟩ = some (.int .i32 l) := by rw [hTN.cell]; rfl
  have f0 := hTN.frozen 0
  have f1 := hTN.frozen 1
  have f2 := hTN.frozen 2
  have p0 : (0 : Int) ≤ (p : Int) := Int.natCast_nonneg _
  have p1 : (p : Int) < (n : Int) := by omega
  have p2 : decide ((p : Int) ≥ (n : Int)) = false := by simp; omega
  have p3 : decide ((n : Int) ≤ (p : Int)) = false := by simp; omega
  clear hO hz hTN
  go_enter Try.func9, Try.ntmps9
  go_wp2_with fail
  go_quiet (fail)
  generalize nq = q1
  go_wp2_with fail
  go_quiet (fail)
  go_wp2_with fail
  obtain ⟨l1, hl1⟩ : ∃ x, x = wrap32 (l + 1) := ⟨_, rfl⟩
  rw [← hl1]
  obtain ⟨V0, hV⟩ : ∃ V, V = ((((w.setCell ⟨T, 2, none⟩ (.int .i32 l1)).alloc (.cells #[.nilIface, .int .i32 0] 33)).drewN (q1 + nq)).setCell ⟨T, 1, none⟩ (.int .i64 ((p : Int) + 1))) := ⟨_, rfl⟩
  have HV := Lib.hid (show V0P w T (some ⟨B, off, none⟩) n cap (p + 1) l1 V0 from by rw [hV]; exact startN HTN.out)
  rw [← hV]
  have zV := HV.out.2.2.2
  have hB : base ≤ w.heap.size := by omega
  have HT0 := Lib.hid HV.out.1
  have HR0 := Lib.hid HV.out.2.1
  have HG0 := Lib.hid HV.out.2.2.1
  have zz0 : w.heap.size + 1 ≤ V0.heap.size := by omega
  clear hl1 hV HV zV c0 t0 t1 t2 f0 f1 f2 p0 p1 p2 p3 HTN
  refine (bReturn l1 V0).mono ?_
  rintro e Y ⟨b, rfl, hA, hb, hw⟩
  have END := Lib.hid (show ∀ u0 u1, NDP base T n cap (some ⟨B, off, none⟩) zs p w (.returned (.agg #[.iface 97 (.pointer (some ⟨b, 0, none⟩)), .int .i32 l1])) ((Y.setCell ⟨w.heap.size, 0, none⟩ u0).setCell ⟨w.heap.size, 1, none⟩ u1) from fun u0 u1 => by
      exact endN (X := V0) (S' := fun _ => False) hB lT HG0.out (by omega) HT0.out hw (fun q hq => hq.elim) (skReturn base b l1 Y) (by omega) (by omega) (fun _ => by omega) (fun mm => by rw [Kp_step hpn hzz (by omega) (by omega), show ar z = 0 from by simp [ar, hk]]; simp) u0 u1)
  have HRY := HR0.out.below hw (by omega)
  have r0 : Y.cell? ⟨w.heap.size, 0, none⟩ = some .nilIface := by rw [HRY.cell]; rfl
  have r1 : Y.cell? ⟨w.heap.size, 1, none⟩ = some (.int .i32 0) := by rw [HRY.cell]; rfl
  have g0 := HRY.frozen 0
  have g1 := HRY.frozen 1
  have lr := HRY.lt
  clear HRY hA hw HG0 HR0 HT0
  go_wp2_with fail
  exact bodyPost_ret (v := .agg #[.iface 97 (.pointer (some ⟨b, 0, none⟩)), .int .i32 l1]) (by simp [results, Try.results9, go_sem, *]) rfl (END.out _ _)

set_option maxRecDepth 100000 in
set_option maxHeartbeats 8000000 in
theorem nd5 (base n cap B off T : Nat) (zs : List Int) (hn : n ≤ 4096) (hz : ∀ i, 0 ≤ zs.getD i 0 ∧ zs.getD i 0 ≤ 255) (hbT : base ≤ T) (m : Nat) (ih : ∀ (p : Nat) (l : Int) (w : World), n - p ≤ m → p ≤ n → TN w T (some ⟨B, off, none⟩) n cap p l → Ops base w (some ⟨B, off, none⟩) n zs → Calls Try.prog 9 #[.pointer (some ⟨T, 0, none⟩)] w (NDP base T n cap (some ⟨B, off, none⟩) zs p w)) (p : Nat) (l : Int) (w : World) (hm : n - p ≤ m + 1) (hpn : p < n) (hTN : TN w T (some ⟨B, off, none⟩) n cap p l) (hO : Ops base w (some ⟨B, off, none⟩) n zs) (hBb : B < base) (z : Int) (c0 : w.cell? ⟨B, off + p, none⟩ = some (.int .u8 z)) (hzz : zs.getD p 0 = z) (z0 : 0 ≤ z) (z1 : z ≤ 255) (hk : z % 19 = 5) :
    Calls Try.prog 9 #[.pointer (some ⟨T, 0, none⟩)] w (NDP base T n cap (some ⟨B, off, none⟩) zs p w) := by
  have HO := Lib.hid hO
  have HZ := Lib.hid hz
  have HTN := Lib.hid hTN
  have lB : B < w.heap.size := World.block_lt_of_cell? _ _ c0
  have lT := hTN.lt
  have nTB : ¬ T = B := by omega
  have nBT : ¬ B = T := by omega
  have t0 : w.cell? ⟨T, 0, none⟩ = some (.slice (some ⟨B, off, none⟩) n cap) := by rw [hTN.cell]; rfl
  have t1 : w.cell? ⟨T, 1, none⟩ = some (.int .i64 p) := by rw [hTN.cell]; rfl
  have t2 : w.cell? ⟨T, 2, none⟩ = some (.int .i32 l) := by rw [hTN.cell]; rfl
  have f0 := hTN.frozen 0
  have f1 := hTN.frozen 1
  have f2 := hTN.frozen 2
  have p0 : (0 : Int) ≤ (p : Int) := Int.natCast_nonneg _
  have p1 : (p : Int) < (n : Int) := by omega
  have p2 : decide ((p : Int) ≥ (n : Int)) = false := by simp; omega
  have p3 : decide ((n : Int) ≤ (p : Int)) = false := by simp; omega
  clear hO hz hTN
  go_enter Try.func9, Try.ntmps9
  go_wp2_with fail
  go_quiet (fail)
  generalize nq = q1
  go_wp2_with fail
  go_quiet (fail)
  go_wp2_with fail
  obtain ⟨l1, hl1⟩ : ∃ x, x = wrap32 (l + 1) := ⟨_, rfl⟩
  rw [← hl1]
  obtain ⟨V0, hV⟩ : ∃ V, V = ((((w.setCell ⟨T, 2, none⟩ (.int .i32 l1)).alloc (.cells #[.nilIface, .int .i32 0] 33)).drewN (q1 + nq)).setCell ⟨T, 1, none⟩ (.int .i64 ((p : Int) + 1))) := ⟨_, rfl⟩
  have HV := Lib.hid (show V0P w T (some ⟨B, off, none⟩) n cap (p + 1) l1 V0 from by rw [hV]; exact startN HTN.out)
  rw [← hV]
  have zV := HV.out.2.2.2
  have hB : base ≤ w.heap.size := by omega
  have HT0 := Lib.hid HV.out.1
  have HR0 := Lib.hid HV.out.2.1
  have HG0 := Lib.hid HV.out.2.2.1
  have zz0 : w.heap.size + 1 ≤ V0.heap.size := by omega
  clear hl1 hV HV zV c0 t0 t1 t2 f0 f1 f2 p0 p1 p2 p3 HTN
  refine (bComment l1 V0).mono ?_
  rintro e Y ⟨b, rfl, hA, hb, hw⟩
  have END := Lib.hid (show ∀ u0 u1, NDP base T n cap (some ⟨B, off, none⟩) zs p w (.returned (.agg #[.iface 173 (.pointer (some ⟨b, 0, none⟩)), .int .i32 l1])) ((Y.setCell ⟨w.heap.size, 0, none⟩ u0).setCell ⟨w.heap.size, 1, none⟩ u1) from fun u0 u1 => by
      exact endN (X := V0) (S' := fun _ => False) hB lT HG0.out (by omega) HT0.out hw (fun q hq => hq.elim) (skComment base b l1 Y) (by omega) (by omega) (fun _ => by omega) (fun mm => by rw [Kp_hit hpn hzz (.inl hk)]; simp) u0 u1)
  have HRY := HR0.out.below hw (by omega)
  have r0 : Y.cell? ⟨w.heap.size, 0, none⟩ = some .nilIface := by rw [HRY.cell]; rfl
  have r1 : Y.cell? ⟨w.heap.size, 1, none⟩ = some (.int .i32 0) := by rw [HRY.cell]; rfl
  have g0 := HRY.frozen 0
  have g1 := HRY.frozen 1
  have lr := HRY.lt
  clear HRY hA hw HG0 HR0 HT0
  go_wp2_with fail
  exact bodyPost_ret (v := .agg #[.iface 173 (.pointer (some ⟨b, 0, none⟩)), .int .i32 l1]) (by simp [results, Try.results9, go_sem, *]) rfl (END.out _ _)

set_option maxRecDepth 100000 in
set_option maxHeartbeats 8000000 in
theorem nd6 (base n cap B off T : Nat) (zs : List Int) (hn : n ≤ 4096) (hz : ∀ i, 0 ≤ zs.getD i 0 ∧ zs.getD i 0 ≤ 255) (hbT : base ≤ T) (m : Nat) (ih : ∀ (p : Nat) (l : Int) (w : World), n - p ≤ m → p ≤ n → TN w T (some ⟨B, off, none⟩) n cap p l → Ops base w (some ⟨B, off, none⟩) n zs → Calls Try.prog 9 #[.pointer (some ⟨T, 0, none⟩)] w (NDP base T n cap (some ⟨B, off, none⟩) zs p w)) (p : Nat) (l : Int) (w : World) (hm : n - p ≤ m + 1) (hpn : p < n) (hTN : TN w T (some ⟨B, off, none⟩) n cap p l) (hO : Ops base w (some ⟨B, off, none⟩) n zs) (hBb : B < base) (z : Int) (c0 : w.cell? ⟨B, off + p, none⟩ = some (.int .u8 z)) (hzz : zs.getD p 0 = z) (z0 : 0 ≤ z) (z1 : z ≤ 255) (hk : z % 19 = 6) :
    Calls Try.prog 9 #[.pointer (some ⟨T, 0, none⟩)] w (NDP base T n cap (some ⟨B, off, none⟩) zs p w) := by
  have HO := Lib.hid hO
  have HZ := Lib.hid hz
  have HTN := Lib.hid hTN
  have lB : B < w.heap.size := World.block_lt_of_cell? _ _ c0
  have lT := hTN.lt
  have nTB : ¬ T = B := by omega
  have nBT : ¬ B = T := by omega
  have t0 : w.cell? ⟨T, 0, none⟩ = some (.slice (some ⟨B, off, none⟩) n cap) := by rw [hTN.cell]; rfl
  have t1 : w.cell? ⟨T, 1, none⟩ = some (.int .i64 p) := by rw [hTN.cell]; rfl
  have t2 : w.cell? ⟨T, 2, none⟩ = some (.int .i32 l) := by rw [hTN.cell]; rfl
  have f0 := hTN.frozen 0
  have f1 := hTN.frozen 1
  have f2 := hTN.frozen 2
  have p0 : (0 : Int) ≤ (p : Int) := Int.natCast_nonneg _
  have p1 : (p : Int) < (n : Int) := by omega
  have p2 : decide ((p : Int) ≥ (n : Int)) = false := by simp; omega
  have p3 : decide ((n : Int) ≤ (p : Int)) = false := by simp; omega
  clear hO hz hTN
  go_enter Try.func9, Try.ntmps9
  go_wp2_with fail
  go_quiet (fail)
  generalize nq = q1
  go_wp2_with fail
  go_quiet (fail)
  go_wp2_with fail
  obtain ⟨l1, hl1⟩ : ∃ x, x = wrap32 (l + 1) := ⟨_, rfl⟩
  rw [← hl1]
  obtain ⟨V0, hV⟩ : ∃ V, V = ((((w.setCell ⟨T, 2, none⟩ (.int .i32 l1)).alloc (.cells #[.nilIface, .int .i32 0] 33)).drewN (q1 + nq)).setCell ⟨T, 1, none⟩ (.int .i64 ((p : Int) + 1))) := ⟨_, rfl⟩
  have HV := Lib.hid (show V0P w T (some ⟨B, off, none⟩) n cap (p + 1) l1 V0 from by rw [hV]; exact startN HTN.out)
  rw [← hV]
  have zV := HV.out.2.2.2
  have hB : base ≤ w.heap.size := by omega
  have HT0 := Lib.hid HV.out.1
  have HR0 := Lib.hid HV.out.2.1
  have HG0 := Lib.hid HV.out.2.2.1
  have zz0 : w.heap.size + 1 ≤ V0.heap.size := by omega
  clear hl1 hV HV zV c0 t0 t1 t2 f0 f1 f2 p0 p1 p2 p3 HTN
  refine (bId l1 0 V0).mono ?_
  rintro e w1 ⟨bi, rfl, hA1, hb1, hw1⟩
  have zw1 := hw1.size
  go_wp2_with fail
  have hG1 : V0.grownBy w1 (some T) := ⟨hw1.os, hw1.tape, hw1.output, hw1.size, fun k hk _ => hw1.block k hk⟩
  obtain ⟨R, hR⟩ : ∃ R, R = w1.heap.size := ⟨_, rfl⟩
  rw [← hR]
  obtain ⟨X, hX⟩ : ∃ X, X = (w1.alloc (.cells #[.iface 165 (.pointer (some ⟨bi, 0, none⟩)), .int .i32 l1, .nilIface, .int .i32 0] 67)).alloc (.cells #[.slice (some ⟨R, 0, none⟩) 1 1, .int .u8 0, .bool false, .bool false] 77) := ⟨_, rfl⟩
  rw [← hX]
  have hG : w1.grownBy X (some T) := by rw [hX]; exact gAlloc (gOne T _) _
  have hRX : At X R 67 #[.iface 165 (.pointer (some ⟨bi, 0, none⟩)), .int .i32 l1, .nilIface, .int .i32 0] := by rw [hX]; exact (atNewB hR.symm _ _).alloc _
  have hSX : At X (R + 1) 77 #[.slice (some ⟨R, 0, none⟩) 1 1, .int .u8 0, .bool false, .bool false] := by rw [hX]; exact atNewB (by simp [hR]) _ _
  have zX : X.heap.size = R + 2 := by rw [hX]; simp [hR]
  have hBI := (hA1.grown (T := T) hG (by omega))
  have lbi := hA1.lt
  have HG1 := Lib.hid (gTrans (gTrans HG0.out hG1 (.inl rfl)) hG (.inl rfl))
  have HR1 := Lib.hid ((HR0.out.grown hG1 (by omega)).grown hG (by omega))
  have HT1 := Lib.hid (show TN X T (some ⟨B, off, none⟩) n cap (p + 1) l1 from by have h := (hw1.block T (by omega)).trans HT0.out; exact (show X.heap[T]? = w1.heap[T]? from by rw [hX, Below.heap_alloc _ _ T (by simp; omega), Below.heap_alloc _ _ T (by omega)]).trans h)
  clear hX hG hG1 hw1 hA1 HG0 HR0 HT0
  have zR : w.heap.size + 1 ≤ R ∧ bi < R := by omega
  clear hR zw1 lbi
  refine (bLocal l1 (R + 1) X).mono ?_
  rintro e Y ⟨rfl, hw⟩
  have zy := hw.size
  obtain ⟨b, hb⟩ : ∃ b, b = R + 1 := ⟨_, rfl⟩
  rw [← hb] at hSX ⊢
  have hRY := hRX.below hw (by omega)
  have hSY := hSX.below hw (by omega)
  have hBY := hBI.below hw (by omega)
  have bnd : ∀ q, (q = R ∨ q = b ∨ q = bi) → base ≤ q ∧ q < Y.heap.size := fun q hq => by
    rcases hq with rfl | rfl | rfl <;> omega
  have hsk := skVarK (B := base) (L := cat (fun _ => [(bi, l1)]) 1) (l0 := l1) bnd (.inr (.inl rfl)) (skVar (b := b) (R := R) (n := 1) (c := 1) (xs := [.iface 165 (.pointer (some ⟨bi, 0, none⟩)), .int .i32 l1, .nilIface, .int .i32 0]) (Ls := fun _ => [(bi, l1)]) (B2 := R) (S := fun q => q = R ∨ q = b ∨ q = bi) (w := Y) l1 (.inr (.inl rfl)) (.inl rfl) (by rw [hSY.cell]; rfl) (by rw [hSY.cell]; rfl) (hSY.frozen 0) ⟨rfl, .inr ⟨R, 1, _, rfl, Nat.le_refl _, hRY, Nat.le_refl _, by simp [maxLen], rfl, rfl⟩⟩ ⟨rfl, fun q hq => by
      obtain rfl : q = 0 := by omega
      exact ⟨_, l1, .nilIface, 0, 0, ⟨_, _, rfl⟩, .inl rfl, (fiId Y bi l1).more (fun _ h => h.elim) (fun q hq => (bnd q hq).2), rfl, rfl, rfl, rfl⟩⟩ (fun q hq => (bnd q hq).2) (by omega) (by simp [cat]))
  have hke : (!(cat (fun _ => [(bi, l1)]) 1).isEmpty) = true := by simp [cat]
  rw [hke] at hsk
  have END := Lib.hid (show ∀ u0 u1, NDP base T n cap (some ⟨B, off, none⟩) zs p w (.returned (.agg #[.iface 75 (.pointer (some ⟨b, 0, none⟩)), .int .i32 l1])) ((Y.setCell ⟨w.heap.size, 0, none⟩ u0).setCell ⟨w.heap.size, 1, none⟩ u1) from fun u0 u1 => by
      exact endN (X := X) (S' := fun q => q = R ∨ q = b ∨ q = bi) (k := true) hB lT HG1.out (by omega) HT1.out hw (fun q hq => by rcases hq with rfl | rfl | rfl <;> omega) hsk (by omega) (by omega) (fun _ => by omega) (fun mm => by rw [Kp_hit hpn hzz (.inr hk)]; simp) u0 u1)
  clear hsk hRX hSX hBI hRY hSY hBY bnd hke
  have hA : True := trivial
  have HRY := HR1.out.below hw (by omega)
  have r0 : Y.cell? ⟨w.heap.size, 0, none⟩ = some .nilIface := by rw [HRY.cell]; rfl
  have r1 : Y.cell? ⟨w.heap.size, 1, none⟩ = some (.int .i32 0) := by rw [HRY.cell]; rfl
  have g0 := HRY.frozen 0
  have g1 := HRY.frozen 1
  have lr := HRY.lt
  clear HRY hA hw HG1 HR1 HT1
  go_wp2_with fail
  exact bodyPost_ret (v := .agg #[.iface 75 (.pointer (some ⟨b, 0, none⟩)), .int .i32 l1]) (by simp [results, Try.results9, go_sem, *]) rfl (END.out _ _)

set_option maxRecDepth 100000 in
set_option maxHeartbeats 8000000 in
theorem nd7 (base n cap B off T : Nat) (zs : List Int) (hn : n ≤ 4096) (hz : ∀ i, 0 ≤ zs.getD i 0 ∧ zs.getD i 0 ≤ 255) (hbT : base ≤ T) (m : Nat) (ih : ∀ (p : Nat) (l : Int) (w : World), n - p ≤ m → p ≤ n → TN w T (some ⟨B, off, none⟩) n cap p l → Ops base w (some ⟨B, off, none⟩) n zs → Calls Try.prog 9 #[.pointer (some ⟨T, 0, none⟩)] w (NDP base T n cap (some ⟨B, off, none⟩) zs p w)) (p : Nat) (l : Int) (w : World) (hm : n - p ≤ m + 1) (hpn : p < n) (hTN : TN w T (some ⟨B, off, none⟩) n cap p l) (hO : Ops base w (some ⟨B, off, none⟩) n zs) (hBb : B < base) (z : Int) (c0 : w.cell? ⟨B, off + p, none⟩ = some (.int .u8 z)) (hzz : zs.getD p 0 = z) (z0 : 0 ≤ z) (z1 : z ≤ 255) (hk : z % 19 = 7) :
    Calls Try.prog 9 #[.pointer (some ⟨T, 0, none⟩)] w (NDP base T n cap (some ⟨B, off, none⟩) zs p w) := by
  have HO := Lib.hid hO
  have HZ := Lib.hid hz
  have HTN := Lib.hid hTN
  have lB : B < w.heap.size := World.block_lt_of_cell? _ _ c0
  have lT := hTN.lt
  have nTB : ¬ T = B := by omega
  have nBT : ¬ B = T := by omega
  have t0 : w.cell? ⟨T, 0, none⟩ = some (.slice (some ⟨B, off, none⟩) n cap) := by rw [hTN.cell]; rfl
  have t1 : w.cell? ⟨T, 1, none⟩ = some (.int .i64 p) := by rw [hTN.cell]; rfl
  have t2 : w.cell? ⟨T, 2, none⟩ = some (.int .i32 l) := by rw [hTN.cell]; rfl
  have f0 := hTN.frozen 0
  have f1 := hTN.frozen 1
  have f2 := hTN.frozen 2
  have p0 : (0 : Int) ≤ (p : Int) := Int.natCast_nonneg _
  have p1 : (p : Int) < (n : Int) := by omega
  have p2 : decide ((p : Int) ≥ (n : Int)) = false := by simp; omega
  have p3 : decide ((n : Int) ≤ (p : Int)) = false := by simp; omega
  clear hO hz hTN
  go_enter Try.func9, Try.ntmps9
  go_wp2_with fail
  go_quiet (fail)
  generalize nq = q1
  go_wp2_with fail
  go_quiet (fail)
  go_wp2_with fail
  obtain ⟨l1, hl1⟩ : ∃ x, x = wrap32 (l + 1) := ⟨_, rfl⟩
  rw [← hl1]
  obtain ⟨V0, hV⟩ : ∃ V, V = ((((w.setCell ⟨T, 2, none⟩ (.int .i32 l1)).alloc (.cells #[.nilIface, .int .i32 0] 33)).drewN (q1 + nq)).setCell ⟨T, 1, none⟩ (.int .i64 ((p : Int) + 1))) := ⟨_, rfl⟩
  have HV := Lib.hid (show V0P w T (some ⟨B, off, none⟩) n cap (p + 1) l1 V0 from by rw [hV]; exact startN HTN.out)
  rw [← hV]
  have zV := HV.out.2.2.2
  have hB : base ≤ w.heap.size := by omega
  have HT0 := Lib.hid HV.out.1
  have HR0 := Lib.hid HV.out.2.1
  have HG0 := Lib.hid HV.out.2.2.1
  have zz0 : w.heap.size + 1 ≤ V0.heap.size := by omega
  clear hl1 hV HV zV c0 t0 t1 t2 f0 f1 f2 p0 p1 p2 p3 HTN
  refine (bArr l1 none 0 0 V0).mono ?_
  rintro e w1 ⟨bi, rfl, hA1, hb1, hw1⟩
  have zw1 := hw1.size
  go_wp2_with fail
  have hG1 : V0.grownBy w1 (some T) := ⟨hw1.os, hw1.tape, hw1.output, hw1.size, fun k hk _ => hw1.block k hk⟩
  obtain ⟨R, hR⟩ : ∃ R, R = w1.heap.size := ⟨_, rfl⟩
  rw [← hR]
  obtain ⟨X, hX⟩ : ∃ X, X = (w1.alloc (.cells #[.iface 48 (.pointer (some ⟨bi, 0, none⟩)), .int .i32 l1, .nilIface, .int .i32 0] 67)).alloc (.cells #[.slice (some ⟨R, 0, none⟩) 1 1, .int .u8 0, .bool false, .bool false] 77) := ⟨_, rfl⟩
  rw [← hX]
  have hG : w1.grownBy X (some T) := by rw [hX]; exact gAlloc (gOne T _) _
  have hRX : At X R 67 #[.iface 48 (.pointer (some ⟨bi, 0, none⟩)), .int .i32 l1, .nilIface, .int .i32 0] := by rw [hX]; exact (atNewB hR.symm _ _).alloc _
  have hSX : At X (R + 1) 77 #[.slice (some ⟨R, 0, none⟩) 1 1, .int .u8 0, .bool false, .bool false] := by rw [hX]; exact atNewB (by simp [hR]) _ _
  have zX : X.heap.size = R + 2 := by rw [hX]; simp [hR]
  have hBI := (hA1.grown (T := T) hG (by omega))
  have lbi := hA1.lt
  have HG1 := Lib.hid (gTrans (gTrans HG0.out hG1 (.inl rfl)) hG (.inl rfl))
  have HR1 := Lib.hid ((HR0.out.grown hG1 (by omega)).grown hG (by omega))
  have HT1 := Lib.hid (show TN X T (some ⟨B, off, none⟩) n cap (p + 1) l1 from by have h := (hw1.block T (by omega)).trans HT0.out; exact (show X.heap[T]? = w1.heap[T]? from by rw [hX, Below.heap_alloc _ _ T (by simp; omega), Below.heap_alloc _ _ T (by omega)]).trans h)
  clear hX hG hG1 hw1 hA1 HG0 HR0 HT0
  have zR : w.heap.size + 1 ≤ R ∧ bi < R := by omega
  clear hR zw1 lbi
  refine (bLocal l1 (R + 1) X).mono ?_
  rintro e Y ⟨rfl, hw⟩
  have zy := hw.size
  obtain ⟨b, hb⟩ : ∃ b, b = R + 1 := ⟨_, rfl⟩
  rw [← hb] at hSX ⊢
  have hRY := hRX.below hw (by omega)
  have hSY := hSX.below hw (by omega)
  have hBY := hBI.below hw (by omega)
  have bnd : ∀ q, (q = R ∨ q = b ∨ q = bi) → base ≤ q ∧ q < Y.heap.size := fun q hq => by
    rcases hq with rfl | rfl | rfl <;> omega
  have hsk := skVarK (B := base) (L := cat (fun _ => []) 1) (l0 := l1) bnd (.inr (.inl rfl)) (skVar (b := b) (R := R) (n := 1) (c := 1) (xs := [.iface 48 (.pointer (some ⟨bi, 0, none⟩)), .int .i32 l1, .nilIface, .int .i32 0]) (Ls := fun _ => []) (B2 := R) (S := fun q => q = R ∨ q = b ∨ q = bi) (w := Y) l1 (.inr (.inl rfl)) (.inl rfl) (by rw [hSY.cell]; rfl) (by rw [hSY.cell]; rfl) (hSY.frozen 0) ⟨rfl, .inr ⟨R, 1, _, rfl, Nat.le_refl _, hRY, Nat.le_refl _, by simp [maxLen], rfl, rfl⟩⟩ ⟨rfl, fun q hq => by
      obtain rfl : q = 0 := by omega
      exact ⟨_, l1, .nilIface, 0, 0, ⟨_, _, rfl⟩, .inl rfl, fiArr0 _ bi l1 Y (.inr (.inr rfl)) (by rw [hBY.cell]; rfl) (fun q hq => (bnd q hq).2), rfl, rfl, rfl, rfl⟩⟩ (fun q hq => (bnd q hq).2) (by omega) (by simp [cat]))
  have hke : (!(cat (fun _ => []) 1).isEmpty) = false := by simp [cat]
  rw [hke] at hsk
  have END := Lib.hid (show ∀ u0 u1, NDP base T n cap (some ⟨B, off, none⟩) zs p w (.returned (.agg #[.iface 75 (.pointer (some ⟨b, 0, none⟩)), .int .i32 l1])) ((Y.setCell ⟨w.heap.size, 0, none⟩ u0).setCell ⟨w.heap.size, 1, none⟩ u1) from fun u0 u1 => by
      exact endN (X := X) (S' := fun q => q = R ∨ q = b ∨ q = bi) (k := false) hB lT HG1.out (by omega) HT1.out hw (fun q hq => by rcases hq with rfl | rfl | rfl <;> omega) hsk (by omega) (by omega) (fun _ => by omega) (fun mm => by rw [Kp_step hpn hzz (by omega) (by omega), show ar z = 0 from by simp [ar, hk]]; simp) u0 u1)
  clear hsk hRX hSX hBI hRY hSY hBY bnd hke
  have hA : True := trivial
  have HRY := HR1.out.below hw (by omega)
  have r0 : Y.cell? ⟨w.heap.size, 0, none⟩ = some .nilIface := by rw [HRY.cell]; rfl
  have r1 : Y.cell? ⟨w.heap.size, 1, none⟩ = some (.int .i32 0) := by rw [HRY.cell]; rfl
  have g0 := HRY.frozen 0
  have g1 := HRY.frozen 1
  have lr := HRY.lt
  clear HRY hA hw HG1 HR1 HT1
  go_wp2_with fail
  exact bodyPost_ret (v := .agg #[.iface 75 (.pointer (some ⟨b, 0, none⟩)), .int .i32 l1]) (by simp [results, Try.results9, go_sem, *]) rfl (END.out _ _)

set_option maxRecDepth 100000 in
set_option maxHeartbeats 8000000 in
theorem nd8 (base n cap B off T : Nat) (zs : List Int) (hn : n ≤ 4096) (hz : ∀ i, 0 ≤ zs.getD i 0 ∧ zs.getD i 0 ≤ 255) (hbT : base ≤ T) (m : Nat) (ih : ∀ (p : Nat) (l : Int) (w : World), n - p ≤ m → p ≤ n → TN w T (some ⟨B, off, none⟩) n cap p l → Ops base w (some ⟨B, off, none⟩) n zs → Calls Try.prog 9 #[.pointer (some ⟨T, 0, none⟩)] w (NDP base T n cap (some ⟨B, off, none⟩) zs p w)) (p : Nat) (l : Int) (w : World) (hm : n - p ≤ m + 1) (hpn : p < n) (hTN : TN w T (some ⟨B, off, none⟩) n cap p l) (hO : Ops base w (some ⟨B, off, none⟩) n zs) (hBb : B < base) (z : Int) (c0 : w.cell? ⟨B, off + p, none⟩ = some (.int .u8 z)) (hzz : zs.getD p 0 = z) (z0 : 0 ≤ z) (z1 : z ≤ 255) (hk : z % 19 = 8) :
    Calls Try.prog 9 #[.pointer (some ⟨T, 0, none⟩)] w (NDP base T n cap (some ⟨B, off, none⟩) zs p w) := by
  have HO := Lib.hid hO
  have HZ := Lib.hid hz
  have HTN := Lib.hid hTN
  have lB : B < w.heap.size := World.block_lt_of_cell? _ _ c0
  have lT := hTN.lt
  have nTB : ¬ T = B := by omega
  have nBT : ¬ B = T := by omega
  have t0 : w.cell? ⟨T, 0, none⟩ = some (.slice (some ⟨B, off, none⟩) n cap) := by rw [hTN.cell]; rfl
  have t1 : w.cell? ⟨T, 1, none⟩ = some (.int .i64 p) := by rw [hTN.cell]; rfl
  have t2 : w.cell? ⟨T, 2, none⟩ = some (.int .i32 l) := by rw [hTN.cell]; rfl
  have f0 := hTN.frozen 0
  have f1 := hTN.frozen 1
  have f2 := hTN.frozen 2
  have p0 : (0 : Int) ≤ (p : Int) := Int.natCast_nonneg _
  have p1 : (p : Int) < (n : Int) := by omega
  have p2 : decide ((p : Int) ≥ (n : Int)) = false := by simp; omega
  have p3 : decide ((n : Int) ≤ (p : Int)) = false := by simp; omega
  clear hO hz hTN
  go_enter Try.func9, Try.ntmps9
  go_wp2_with fail
  go_quiet (fail)
  generalize nq = q1
  go_wp2_with fail
  go_quiet (fail)
  go_wp2_with fail
  obtain ⟨l1, hl1⟩ : ∃ x, x = wrap32 (l + 1) := ⟨_, rfl⟩
  rw [← hl1]
  obtain ⟨V0, hV⟩ : ∃ V, V = ((((w.setCell ⟨T, 2, none⟩ (.int .i32 l1)).alloc (.cells #[.nilIface, .int .i32 0] 33)).drewN (q1 + nq)).setCell ⟨T, 1, none⟩ (.int .i64 ((p : Int) + 1))) := ⟨_, rfl⟩
  have HV := Lib.hid (show V0P w T (some ⟨B, off, none⟩) n cap (p + 1) l1 V0 from by rw [hV]; exact startN HTN.out)
  rw [← hV]
  have zV := HV.out.2.2.2
  have hB : base ≤ w.heap.size := by omega
  have HT0 := Lib.hid HV.out.1
  have HR0 := Lib.hid HV.out.2.1
  have HG0 := Lib.hid HV.out.2.2.1
  have zz0 : w.heap.size + 1 ≤ V0.heap.size := by omega
  clear hl1 hV HV zV c0 t0 t1 t2 f0 f1 f2 p0 p1 p2 p3 HTN
  refine (bId l1 0 V0).mono ?_
  rintro e w1 ⟨bi, rfl, hA1, hb1, hw1⟩
  have zw1 := hw1.size
  go_wp2_with fail
  have hG1 : V0.grownBy w1 (some T) := ⟨hw1.os, hw1.tape, hw1.output, hw1.size, fun k hk _ => hw1.block k hk⟩
  obtain ⟨R, hR⟩ : ∃ R, R = w1.heap.size := ⟨_, rfl⟩
  rw [← hR]
  obtain ⟨X, hX⟩ : ∃ X, X = (w1.alloc (.cells #[.iface 165 (.pointer (some ⟨bi, 0, none⟩)), .int .i32 l1, .nilIface, .int .i32 0] 67)).alloc (.cells #[.slice (some ⟨R, 0, none⟩) 1 1, .int .u8 1, .bool false, .bool false] 77) := ⟨_, rfl⟩
  rw [← hX]
  have hG : w1.grownBy X (some T) := by rw [hX]; exact gAlloc (gOne T _) _
  have hRX : At X R 67 #[.iface 165 (.pointer (some ⟨bi, 0, none⟩)), .int .i32 l1, .nilIface, .int .i32 0] := by rw [hX]; exact (atNewB hR.symm _ _).alloc _
  have hSX : At X (R + 1) 77 #[.slice (some ⟨R, 0, none⟩) 1 1, .int .u8 1, .bool false, .bool false] := by rw [hX]; exact atNewB (by simp [hR]) _ _
  have zX : X.heap.size = R + 2 := by rw [hX]; simp [hR]
  have hBI := (hA1.grown (T := T) hG (by omega))
  have lbi := hA1.lt
  have HG1 := Lib.hid (gTrans (gTrans HG0.out hG1 (.inl rfl)) hG (.inl rfl))
  have HR1 := Lib.hid ((HR0.out.grown hG1 (by omega)).grown hG (by omega))
  have HT1 := Lib.hid (show TN X T (some ⟨B, off, none⟩) n cap (p + 1) l1 from by have h := (hw1.block T (by omega)).trans HT0.out; exact (show X.heap[T]? = w1.heap[T]? from by rw [hX, Below.heap_alloc _ _ T (by simp; omega), Below.heap_alloc _ _ T (by omega)]).trans h)
  clear hX hG hG1 hw1 hA1 HG0 HR0 HT0
  have zR : w.heap.size + 1 ≤ R ∧ bi < R := by omega
  clear hR zw1 lbi
  refine (bLocal l1 (R + 1) X).mono ?_
  rintro e Y ⟨rfl, hw⟩
  have zy := hw.size
  obtain ⟨b, hb⟩ : ∃ b, b = R + 1 := ⟨_, rfl⟩
  rw [← hb] at hSX ⊢
  have hRY := hRX.below hw (by omega)
  have hSY := hSX.below hw (by omega)
  have hBY := hBI.below hw (by omega)
  have bnd : ∀ q, (q = R ∨ q = b ∨ q = bi) → base ≤ q ∧ q < Y.heap.size := fun q hq => by
    rcases hq with rfl | rfl | rfl <;> omega
  have hsk := skLet (B := base) (b := b) (kd := 1) (S := fun q => q = R ∨ q = b ∨ q = bi) (w := Y) l1 bnd (.inr (.inl rfl)) (by rw [hSY.cell]; rfl) (by omega) (by omega)
  have END := Lib.hid (show ∀ u0 u1, NDP base T n cap (some ⟨B, off, none⟩) zs p w (.returned (.agg #[.iface 75 (.pointer (some ⟨b, 0, none⟩)), .int .i32 l1])) ((Y.setCell ⟨w.heap.size, 0, none⟩ u0).setCell ⟨w.heap.size, 1, none⟩ u1) from fun u0 u1 => by
      exact endN (X := X) (S' := fun q => q = R ∨ q = b ∨ q = bi) (k := false) hB lT HG1.out (by omega) HT1.out hw (fun q hq => by rcases hq with rfl | rfl | rfl <;> omega) hsk (by omega) (by omega) (fun _ => by omega) (fun mm => by rw [Kp_step hpn hzz (by omega) (by omega), show ar z = 0 from by simp [ar, hk]]; simp) u0 u1)
  clear hsk hRX hSX hBI hRY hSY hBY bnd
  have hA : True := trivial
  have HRY := HR1.out.below hw (by omega)
  have r0 : Y.cell? ⟨w.heap.size, 0, none⟩ = some .nilIface := by rw [HRY.cell]; rfl
  have r1 : Y.cell? ⟨w.heap.size, 1, none⟩ = some (.int .i32 0) := by rw [HRY.cell]; rfl
  have g0 := HRY.frozen 0
  have g1 := HRY.frozen 1
  have lr := HRY.lt
  clear HRY hA hw HG1 HR1 HT1
  go_wp2_with fail
  exact bodyPost_ret (v := .agg #[.iface 75 (.pointer (some ⟨b, 0, none⟩)), .int .i32 l1]) (by simp [results, Try.results9, go_sem, *]) rfl (END.out _ _)

set_option maxRecDepth 100000 in
set_option maxHeartbeats 8000000 in
theorem nd9 (base n cap B off T : Nat) (zs : List Int) (hn : n ≤ 4096) (hz : ∀ i, 0 ≤ zs.getD i 0 ∧ zs.getD i 0 ≤ 255) (hbT : base ≤ T) (m : Nat) (ih : ∀ (p : Nat) (l : Int) (w : World), n - p ≤ m → p ≤ n → TN w T (some ⟨B, off, none⟩) n cap p l → Ops base w (some ⟨B, off, none⟩) n zs → Calls Try.prog 9 #[.pointer (some ⟨T, 0, none⟩)] w (NDP base T n cap (some ⟨B, off, none⟩) zs p w)) (p : Nat) (l : Int) (w : World) (hm : n - p ≤ m + 1) (hpn : p < n) (hTN : TN w T (some ⟨B, off, none⟩) n cap p l) (hO : Ops base w (some ⟨B, off, none⟩) n zs) (hBb : B < base) (z : Int) (c0 : w.cell? ⟨B, off + p, none⟩ = some (.int .u8 z)) (hzz : zs.getD p 0 = z) (z0 : 0 ≤ z) (z1 : z ≤ 255) (hk : z % 19 = 9) :
    Calls Try.prog 9 #[.pointer (some ⟨T, 0, none⟩)] w (NDP base T n cap (some ⟨B, off, none⟩) zs p w) := by
  have HO := Lib.hid hO
  have HZ := Lib.hid hz
  have HTN := Lib.hid hTN
  have lB : B < w.heap.size := World.block_lt_of_cell? _ _ c0
  have lT := hTN.lt
  have nTB : ¬ T = B := by omega
  have nBT : ¬ B = T := by omega
  have t0 : w.cell? ⟨T, 0, none⟩ = some (.slice (some ⟨B, off, none⟩) n cap) := by rw [hTN.cell]; rfl
  have t1 : w.cell? ⟨T, 1, none⟩ = some (.int .i64 p) := by rw [hTN.cell]; rfl
  have t2 : w.cell? ⟨T, 2, none⟩ = some (.int .i32 l) := by rw [hTN.cell]; rfl
  have f0 := hTN.frozen 0
  have f1 := hTN.frozen 1
  have f2 := hTN.frozen 2
  have p0 : (0 : Int) ≤ (p : Int) := Int.natCast_nonneg _
  have p1 : (p : Int) < (n : Int) := by omega
  have p2 : decide ((p : Int) ≥ (n : Int)) = false := by simp; omega
  have p3 : decide ((n : Int) ≤ (p : Int)) = false := by simp; omega
  clear hO hz hTN
  obtain ⟨N, hN⟩ : ∃ N : Nat, z / 19 % 4 = (N : Int) := ⟨(z / 19 % 4).toNat, by omega⟩
  have hN3 : N ≤ 3 := by omega
  obtain ⟨i0, hi0, hz0, hz1, hz2⟩ := info_parts infoSN
  have I0 := Lib.hid hi0
  have I1 := Lib.hid hz0
  have I2 := Lib.hid hz1
  have I3 := Lib.hid hz2
  have hbm : i0.bytes * N ≤ 281474976710656 := by rw [hz2]; omega
  clear hi0 hz0 hz1 hz2
  go_enter Try.func9, Try.ntmps9
  go_wp2_with fail
  go_quiet (fail)
  generalize nq = q1
  go_wp2_with fail
  go_quiet (fail)
  go_wp2_with (with_reducible refine wpList_make_own _ (o := ⟨some 120, _, _, _, _, _⟩) rfl _ _ 36 rfl (w.heap.size + 1) 33 i0 _ 2 Try.underlying36 I0.out I1.out I2.out .i64 .i64 _ N rfl rfl ?e1 ?e2 ?e3 ?e4 ?_)
  try (case e1 => first | exact hN | rfl | omega | (simp; omega))
  try (case e2 => exact hbm)
  try (case e3 => unfold maxLen; omega)
  try (case e4 => simp [World.setCell]; try omega)
  intro w1 hown hgr
  obtain ⟨l1, hl1⟩ : ∃ x, x = wrap32 (l + 1) := ⟨_, rfl⟩
  rw [← hl1] at hgr ⊢
  obtain ⟨V0, hV⟩ : ∃ V, V = ((((w.setCell ⟨T, 2, none⟩ (.int .i32 l1)).alloc (.cells #[.nilIface, .int .i32 0] 33)).drewN (q1 + nq)).setCell ⟨T, 1, none⟩ (.int .i64 ((p : Int) + 1))) := ⟨_, rfl⟩
  have HV := Lib.hid (show V0P w T (some ⟨B, off, none⟩) n cap (p + 1) l1 V0 from by rw [hV]; exact startN HTN.out)
  rw [← hV] at hgr
  have zV := HV.out.2.2.2
  have hB : base ≤ w.heap.size := by omega
  have HT0 := Lib.hid HV.out.1
  have HR0 := Lib.hid HV.out.2.1
  have HG0 := Lib.hid HV.out.2.2.1
  have zz0 : w.heap.size + 1 ≤ V0.heap.size := by omega
  clear hl1 hV HV zV c0 t0 t1 t2 f0 f1 f2 p0 p1 p2 p3 HTN
  have har : ar z = N := by simp [ar, hk]; omega
  have hG : V0.grownBy w1 (some T) := gTrans (gRefl _ _) hgr (.inr (.inl rfl))
  have ST := Lib.hid (show NR base T n cap N (some ⟨B, off, none⟩) zs p w (.slice (some ⟨w.heap.size + 1, 0, none⟩) 0 N) (.int .i64 0) w1 from ⟨0, p + 1, w.heap.size + 1, N, l1, [], fun _ => false, fun _ => False, Nat.zero_le _, rfl, rfl, by omega, by omega, Lib.hid ((hgr.block T (by omega) (by simp)).trans HT0.out), Lib.hid hown, Lib.hid ⟨rfl, fun q hq => absurd hq (by omega)⟩, Lib.hid (fun q hq => hq.elim), Lib.hid (fun h => h), Lib.hid (gTrans HG0.out hG (.inl rfl)), Lib.hid (HR0.out.grown hG (by omega)), Lib.hid (fun mm => by rw [Kp_step hpn hzz (by omega) (by omega), har]; simp [anyB])⟩)
  clear hown hgr hG HG0 HR0 HT0 hk har hN hzz
  go_wp2_with fail
  go_loopw [6, 7] (fun s i wr => NR base T n cap N (some ⟨B, off, none⟩) zs p w s i wr) (fun _ i _ => N - (intOf i).toNat)
  case atStart => exact ST.out
  case round =>
    clear ST
    obtain ⟨j, p', g, c, l', xs, ks, S, hj, rfl, rfl, hp1, hp2, HT, HW, HI, HS, HG, HX, HA, HK⟩ := hrel
    have zr := HX.out.size
    have zr1 : w.heap.size + 1 ≤ wr.heap.size := by have := HA.out.lt; omega
    have zg := (World.ownsRow.lt HW.out g rfl)
    by_cases hjn : j < N
    · go_wp2_with fail
      refine (ih p' l' wr (by omega) (by omega) HT.out (HO.out.grown hB hbT HX.out)).mono ?_
      rintro e w2 ⟨d, l, p2, l2, k2, S2, rfl, ⟨ty, bq, rfl⟩, hfi, hS2, hpa, hpb, hpc, ht2, hg2, hk2⟩
      have STEP := Lib.hid (fun o w3 g' c' ho3 hg3 hlie => stepN (N := N) (o := o) (w3 := w3) (g' := g') (c' := c') hB lT hjn hp1 hpa hpb HW.out HI.out HS.out HG.out HX.out HA.out HK.out hfi hS2 ht2 hg2 hk2 ho3 hg3 hlie)
      have zw2 := hg2.size
      have OWN := Lib.hid (show ∀ o, (w2.alloc o).ownsRow (w.heap.size + 1) 33 2 (.slice (some ⟨g, 0, none⟩) j c) j xs from fun o => World.ownsRow.alloc (ownKeep HW.out (fun k hk => by simp only [Value.ownBlock, Option.some.injEq] at hk; subst hk; exact hg2.block g zg.2 (by simp; omega))) _)
      have NEW := Lib.hid (show ∀ (q : Nat) (u : Value), ([.iface ty (.pointer (some ⟨bq, 0, none⟩)), .int .i32 l] : List Value)[q]? = some u → (w2.alloc (.cells #[.iface ty (.pointer (some ⟨bq, 0, none⟩)), .int .i32 l] 33)).cell? ((⟨w2.heap.size, 0, none⟩ : Addr).add q) = some u from World.news_of_block (cs := #[.iface ty (.pointer (some ⟨bq, 0, none⟩)), .int .i32 l]) (t := 33) (fr := (0, 0)) (heap_alloc_new w2 _))
      have ONE := Lib.hid (show ∀ u ∈ ([.iface ty (.pointer (some ⟨bq, 0, none⟩)), .int .i32 l] : List Value), u.oneCell' = true from by simp [Value.oneCell'])
      have B1 : j + 1 ≤ maxLen := by unfold maxLen; omega
      have B2 : (j + 1) * 24 ≤ 140737488355328 := by omega
      have B3 := Lib.hid (show ∀ o, w.heap.size + 1 ≤ (w2.alloc o).heap.size from fun _ => by simp; omega)
      have B4 := Lib.hid (show ∀ o, (w2.alloc o).heap.size = w2.heap.size + 1 from fun _ => by simp)
      clear hfi hS2 ht2 hg2 hk2 HT HW HI HS HG HX HA HK
      go_wp2_with (with_reducible refine wpList_append_lies _ (o := ⟨some 130, _, _, _, _, _⟩) rfl _ _ 36 rfl (w.heap.size + 1) 33 i0 _ 2 24 Try.underlying36 I0.out I1.out I2.out I3.out rfl (by omega) (.slice (some ⟨g, 0, none⟩) j c) j xs rfl (OWN.out _) ⟨w2.heap.size, 0, none⟩ 1 1 [.iface ty (.pointer (some ⟨bq, 0, none⟩)), .int .i32 l] rfl rfl NEW.out ONE.out (by omega) B1 B2 (B3.out _) (w2.heap.size + 1) (B4.out _) ?_)
      intro g' c' w3 ho3 hg3 hlie hlt3
      have DA1 := Lib.hid (STEP.out _ _ _ _ ho3 hg3 hlie)
      clear ho3 hg3 hlie STEP OWN NEW
      go_wp2_with fail
      go_roundw
      case measure => simp [intOf]; omega
      case rel => exact DA1.out
    · obtain rfl : j = N := by omega
      go_wp2_with fail
      refine (bBlock l1 (some ⟨g, 0, none⟩) j c wr).mono ?_
      rintro e Y ⟨b, rfl, hA, hb, hw⟩
      have lb := hA.lt
      have zy := hw.size
      have bnd : ∀ q, ((S q ∨ q = g) ∨ q = b) → base ≤ q ∧ q < Y.heap.size := fun q hq => by
        rcases hq with (hq | rfl) | rfl
        · have := HS.out q hq; omega
        · omega
        · omega
      have END := Lib.hid (show ∀ u0 u1, NDP base T n cap (some ⟨B, off, none⟩) zs p w (.returned (.agg #[.iface 121 (.pointer (some ⟨b, 0, none⟩)), .int .i32 l1])) ((Y.setCell ⟨w.heap.size, 0, none⟩ u0).setCell ⟨w.heap.size, 1, none⟩ u1) from fun u0 u1 => by
        refine endN (X := wr) (S' := fun q => (S q ∨ q = g) ∨ q = b) (k := anyB ks j) hB lT HX.out (by omega) HT.out hw (fun q hq => ?_) (skBlock b l1 bnd (.inr rfl) (by rw [hA.cell]; rfl) (klOf (.inl (.inr rfl)) (ownKeep HW.out (fun k hk => by simp only [Value.ownBlock, Option.some.injEq] at hk; subst hk; exact hw.block g zg.2)) ((HI.out.keep zy (fun q hq => hw.block q (HS.out q hq).2)).more (fun _ h => .inl (.inl h)) bnd) bnd (by omega))) (by omega) (by omega) (fun _ => by omega) (fun mm => ?_) u0 u1
        · rcases hq with (hq | rfl) | rfl
          · have := HS.out q hq; omega
          · omega
          · omega
        · rw [HK.out mm]; simp)
      have HRY := HA.out.below hw (by omega)
      have r0 : Y.cell? ⟨w.heap.size, 0, none⟩ = some .nilIface := by rw [HRY.cell]; rfl
      have r1 : Y.cell? ⟨w.heap.size, 1, none⟩ = some (.int .i32 0) := by rw [HRY.cell]; rfl
      have g0 := HRY.frozen 0
      have g1 := HRY.frozen 1
      have lr := HRY.lt
      clear HRY hA hw HT HW HI HS HG HX HA HK bnd
      go_wp2_with fail
      exact bodyPost_ret (v := .agg #[.iface 121 (.pointer (some ⟨b, 0, none⟩)), .int .i32 l1]) (by simp [results, Try.results9, go_sem, *]) rfl (END.out _ _)

set_option maxRecDepth 100000 in
set_option maxHeartbeats 8000000 in
theorem nd10 (base n cap B off T : Nat) (zs : List Int) (hn : n ≤ 4096) (hz : ∀ i, 0 ≤ zs.getD i 0 ∧ zs.getD i 0 ≤ 255) (hbT : base ≤ T) (m : Nat) (ih : ∀ (p : Nat) (l : Int) (w : World), n - p ≤ m → p ≤ n → TN w T (some ⟨B, off, none⟩) n cap p l → Ops base w (some ⟨B, off, none⟩) n zs → Calls Try.prog 9 #[.pointer (some ⟨T, 0, none⟩)] w (NDP base T n cap (some ⟨B, off, none⟩) zs p w)) (p : Nat) (l : Int) (w : World) (hm : n - p ≤ m + 1) (hpn : p < n) (hTN : TN w T (some ⟨B, off, none⟩) n cap p l) (hO : Ops base w (some ⟨B, off, none⟩) n zs) (hBb : B < base) (z : Int) (c0 : w.cell? ⟨B, off + p, none⟩ = some (.int .u8 z)) (hzz : zs.getD p 0 = z) (z0 : 0 ≤ z) (z1 : z ≤ 255) (hk : z % 19 = 10) :
    Calls Try.prog 9 #[.pointer (some ⟨T, 0, none⟩)] w (NDP base T n cap (some ⟨B, off, none⟩) zs p w) := by
  have HO := Lib.hid hO
  have HZ := Lib.hid hz
  have HTN := Lib.hid hTN
  have lB : B < w.heap.size := World.block_lt_of_cell? _ _ c0
  have lT := hTN.lt
  have nTB : ¬ T = B := by omega
  have nBT : ¬ B = T := by omega
  have t0 : w.cell? ⟨T, 0, none⟩ = some (.slice (some ⟨B, off, none⟩) n cap) := by rw [hTN.cell]; rfl
  have t1 : w.cell? ⟨T, 1, none⟩ = some (.int .i64 p) := by rw [hTN.cell]; rfl
  have t2 : w.cell? ⟨T, 2, none⟩ = some (.int .i32 l) := by rw [hTN.cell]; rfl
  have f0 := hTN.frozen 0
  have f1 := hTN.frozen 1
  have f2 := hTN.frozen 2
  have p0 : (0 : Int) ≤ (p : Int) := Int.natCast_nonneg _
  have p1 : (p : Int) < (n : Int) := by omega
  have p2 : decide ((p : Int) ≥ (n : Int)) = false := by simp; omega
  have p3 : decide ((n : Int) ≤ (p : Int)) = false := by simp; omega
  clear hO hz hTN
  go_enter Try.func9, Try.ntmps9
  go_wp2_with fail
  go_quiet (fail)
  generalize nq = q1
  go_wp2_with fail
  go_quiet (fail)
  go_wp2_with fail
  obtain ⟨l1, hl1⟩ : ∃ x, x = wrap32 (l + 1) := ⟨_, rfl⟩
  rw [← hl1]
  obtain ⟨V0, hV⟩ : ∃ V, V = ((((w.setCell ⟨T, 2, none⟩ (.int .i32 l1)).alloc (.cells #[.nilIface, .int .i32 0] 33)).drewN (q1 + nq)).setCell ⟨T, 1, none⟩ (.int .i64 ((p : Int) + 1))) := ⟨_, rfl⟩
  have HV := Lib.hid (show V0P w T (some ⟨B, off, none⟩) n cap (p + 1) l1 V0 from by rw [hV]; exact startN HTN.out)
  rw [← hV]
  have zV := HV.out.2.2.2
  have hB : base ≤ w.heap.size := by omega
  have HT0 := Lib.hid HV.out.1
  have HR0 := Lib.hid HV.out.2.1
  have HG0 := Lib.hid HV.out.2.2.1
  have zz0 : w.heap.size + 1 ≤ V0.heap.size := by omega
  clear hl1 hV HV zV c0 t0 t1 t2 f0 f1 f2 p0 p1 p2 p3 HTN
  refine (ih (p + 1) l1 V0 (by omega) (by omega) HT0.out (HO.out.grown hB hbT HG0.out)).mono ?_
  rintro e w1 ⟨d1, lo1, p1, lc1, k1, S1, rfl, ⟨t1, q1, rfl⟩, f1, s1, pa1, pb1, pc1, ht1, hg1, hk1⟩
  have zw1 := hg1.size
  have HGw1 := Lib.hid (gTrans HG0.out hg1 (.inl rfl))
  have HRw1 := Lib.hid (HR0.out.grown hg1 (by omega))
  have C1_w1 := Lib.hid (show CH base w.heap.size w1 (.iface t1 (.pointer (some ⟨q1, 0, none⟩))) lo1 k1 S1 from ⟨f1, fun q hq => ⟨by have := s1 q hq; omega, (f1.1 q hq).2⟩⟩)
  have HTw1 := Lib.hid ht1
  have HK1 := Lib.hid hk1
  have zzw1 : w.heap.size + 1 ≤ w1.heap.size := by omega
  clear HG0 HR0 HT0 f1 s1 ht1 hg1 hk1
  go_wp2_with fail
  refine (bIf l1 t1 q1 lo1 w1).mono ?_
  rintro e Y ⟨b, rfl, hA, hb, hw⟩
  have END := Lib.hid (show ∀ u0 u1, NDP base T n cap (some ⟨B, off, none⟩) zs p w (.returned (.agg #[.iface 134 (.pointer (some ⟨b, 0, none⟩)), .int .i32 l1])) ((Y.setCell ⟨w.heap.size, 0, none⟩ u0).setCell ⟨w.heap.size, 1, none⟩ u1) from fun u0 u1 => by
      have zy := hw.size
      have lb := hA.lt
      have bnd : ∀ q, ((S1 q) ∨ q = b) → base ≤ q ∧ q < Y.heap.size := fun q hq => by
          rcases hq with (hq) | rfl
          · have := C1_w1.out.2 q hq; omega
          · omega
      refine endN (X := w1) (S' := fun q => (S1 q) ∨ q = b) (k := k1) hB lT HGw1.out (by omega) HTw1.out hw (fun q hq => ?_) (skIf1 b l1 bnd (.inr rfl) (by rw [hA.cell]; rfl) (by rw [hA.cell]; rfl) ((C1_w1.out.below hw).more (fun q hq => .inl hq) bnd) (by rw [hA.cell]; rfl)) (by omega) (by omega) (fun _ => by omega) (fun mm => ?_) u0 u1
      · rcases hq with (hq) | rfl
        · have := C1_w1.out.2 q hq; omega
        · omega
      · rw [Kp_step hpn hzz (by omega) (by omega), show ar z = 1 from by simp [ar, hk], show mm + 1 = (mm + 0) + 1 from rfl, HK1.out])
  have HRY := HRw1.out.below hw (by omega)
  have r0 : Y.cell? ⟨w.heap.size, 0, none⟩ = some .nilIface := by rw [HRY.cell]; rfl
  have r1 : Y.cell? ⟨w.heap.size, 1, none⟩ = some (.int .i32 0) := by rw [HRY.cell]; rfl
  have g0 := HRY.frozen 0
  have g1 := HRY.frozen 1
  have lr := HRY.lt
  clear HRY hA hw HGw1 HRw1 HTw1 C1_w1
  go_wp2_with fail
  exact bodyPost_ret (v := .agg #[.iface 134 (.pointer (some ⟨b, 0, none⟩)), .int .i32 l1]) (by simp [results, Try.results9, go_sem, *]) rfl (END.out _ _)

set_option maxRecDepth 100000 in
set_option maxHeartbeats 8000000 in
theorem nd11 (base n cap B off T : Nat) (zs : List Int) (hn : n ≤ 4096) (hz : ∀ i, 0 ≤ zs.getD i 0 ∧ zs.getD i 0 ≤ 255) (hbT : base ≤ T) (m : Nat) (ih : ∀ (p : Nat) (l : Int) (w : World), n - p ≤ m → p ≤ n → TN w T (some ⟨B, off, none⟩) n cap p l → Ops base w (some ⟨B, off, none⟩) n zs → Calls Try.prog 9 #[.pointer (some ⟨T, 0, none⟩)] w (NDP base T n cap (some ⟨B, off, none⟩) zs p w)) (p : Nat) (l : Int) (w : World) (hm : n - p ≤ m + 1) (hpn : p < n) (hTN : TN w T (some ⟨B, off, none⟩) n cap p l) (hO : Ops base w (some ⟨B, off, none⟩) n zs) (hBb : B < base) (z : Int) (c0 : w.cell? ⟨B, off + p, none⟩ = some (.int .u8 z)) (hzz : zs.getD p 0 = z) (z0 : 0 ≤ z) (z1 : z ≤ 255) (hk : z % 19 = 11) :
    Calls Try.prog 9 #[.pointer (some ⟨T, 0, none⟩)] w (NDP base T n cap (some ⟨B, off, none⟩) zs p w) := by
  have HO := Lib.hid hO
  have HZ := Lib.hid hz
  have HTN := Lib.hid hTN
  have lB : B < w.heap.size := World.block_lt_of_cell? _ _ c0
  have lT := hTN.lt
  have nTB : ¬ T = B := by omega
  have nBT : ¬ B = T := by omega
  have t0 : w.cell? ⟨T, 0, none⟩ = some (.slice (some ⟨B, off, none⟩) n cap) := by rw [hTN.cell]; rfl
  have t1 : w.cell? ⟨T, 1, none⟩ = some (.int .i64 p) := by rw [hTN.cell]; rfl
  have t2 : w.cell? ⟨T, 2, none⟩ = some (.int .i32 l) := by rw [hTN.cell]; rfl
  have f0 := hTN.frozen 0
  have f1 := hTN.frozen 1
  have f2 := hTN.frozen 2
  have p0 : (0 : Int) ≤ (p : Int) := Int.natCast_nonneg _
  have p1 : (p : Int) < (n : Int) := by omega
  have p2 : decide ((p : Int) ≥ (n : Int)) = false := by simp; omega
  have p3 : decide ((n : Int) ≤ (p : Int)) = false := by simp; omega
  clear hO hz hTN
  go_enter Try.func9, Try.ntmps9
  go_wp2_with fail
  go_quiet (fail)
  generalize nq = q1
  go_wp2_with fail
  go_quiet (fail)
  go_wp2_with fail
  obtain ⟨l1, hl1⟩ : ∃ x, x = wrap32 (l + 1) := ⟨_, rfl⟩
  rw [← hl1]
  obtain ⟨V0, hV⟩ : ∃ V, V = ((((w.setCell ⟨T, 2, none⟩ (.int .i32 l1)).alloc (.cells #[.nilIface, .int .i32 0] 33)).drewN (q1 + nq)).setCell ⟨T, 1, none⟩ (.int .i64 ((p : Int) + 1))) := ⟨_, rfl⟩
  have HV := Lib.hid (show V0P w T (some ⟨B, off, none⟩) n cap (p + 1) l1 V0 from by rw [hV]; exact startN HTN.out)
  rw [← hV]
  have zV := HV.out.2.2.2
  have hB : base ≤ w.heap.size := by omega
  have HT0 := Lib.hid HV.out.1
  have HR0 := Lib.hid HV.out.2.1
  have HG0 := Lib.hid HV.out.2.2.1
  have zz0 : w.heap.size + 1 ≤ V0.heap.size := by omega
  clear hl1 hV HV zV c0 t0 t1 t2 f0 f1 f2 p0 p1 p2 p3 HTN
  refine (ih (p + 1) l1 V0 (by omega) (by omega) HT0.out (HO.out.grown hB hbT HG0.out)).mono ?_
  rintro e w1 ⟨d1, lo1, p1, lc1, k1, S1, rfl, ⟨t1, q1, rfl⟩, f1, s1, pa1, pb1, pc1, ht1, hg1, hk1⟩
  have zw1 := hg1.size
  have HGw1 := Lib.hid (gTrans HG0.out hg1 (.inl rfl))
  have HRw1 := Lib.hid (HR0.out.grown hg1 (by omega))
  have C1_w1 := Lib.hid (show CH base w.heap.size w1 (.iface t1 (.pointer (some ⟨q1, 0, none⟩))) lo1 k1 S1 from ⟨f1, fun q hq => ⟨by have := s1 q hq; omega, (f1.1 q hq).2⟩⟩)
  have HTw1 := Lib.hid ht1
  have HK1 := Lib.hid hk1
  have zzw1 : w.heap.size + 1 ≤ w1.heap.size := by omega
  clear HG0 HR0 HT0 f1 s1 ht1 hg1 hk1
  go_wp2_with fail
  obtain ⟨V1, hV⟩ : ∃ V, V = w1.alloc (.cells #[.iface t1 (.pointer (some ⟨q1, 0, none⟩)), .int .i32 lo1] 33) := ⟨_, rfl⟩
  rw [← hV]
  have hG : w1.grownBy V1 (some T) := by rw [hV]; exact gOne T _
  have hN : At V1 (w1.heap.size) 33 #[.iface t1 (.pointer (some ⟨q1, 0, none⟩)), .int .i32 lo1] := by rw [hV]; exact At.new _ _ _
  have zv1 : V1.heap.size = w1.heap.size + 1 := by rw [hV]; simp
  have HTV1 := Lib.hid (show TN V1 T (some ⟨B, off, none⟩) n cap p1 lc1 from by rw [hV]; exact At.alloc HTw1.out _)
  have HGV1 := Lib.hid (gTrans HGw1.out hG (.inl rfl))
  have HRV1 := Lib.hid (HRw1.out.grown hG (by omega))
  have C1_V1 := Lib.hid (C1_w1.out.grown hG (by omega))
  have HLb1_V1 := Lib.hid hN
  have zb1 : w.heap.size + 1 ≤ w1.heap.size ∧ w1.heap.size < V1.heap.size := by omega
  have zzV1 : w.heap.size + 1 ≤ V1.heap.size := by omega
  clear hV hG hN HGw1 HRw1 HTw1 C1_w1
  refine (ih p1 lc1 V1 (by omega) (by omega) HTV1.out (HO.out.grown hB hbT HGV1.out)).mono ?_
  rintro e w2 ⟨d2, lo2, p2, lc2, k2, S2, rfl, ⟨t2, q2, rfl⟩, f2, s2, pa2, pb2, pc2, ht2, hg2, hk2⟩
  have zw2 := hg2.size
  have HGw2 := Lib.hid (gTrans HGV1.out hg2 (.inl rfl))
  have HRw2 := Lib.hid (HRV1.out.grown hg2 (by omega))
  have HLb1_w2 := Lib.hid (HLb1_V1.out.grown hg2 (by omega))
  have C1_w2 := Lib.hid (C1_V1.out.grown hg2 (by omega))
  have C2_w2 := Lib.hid (show CH base w.heap.size w2 (.iface t2 (.pointer (some ⟨q2, 0, none⟩))) lo2 k2 S2 from ⟨f2, fun q hq => ⟨by have := s2 q hq; omega, (f2.1 q hq).2⟩⟩)
  have HTw2 := Lib.hid ht2
  have HK2 := Lib.hid hk2
  have zzw2 : w.heap.size + 1 ≤ w2.heap.size := by omega
  clear HGV1 HRV1 HTV1 HLb1_V1 C1_V1 f2 s2 ht2 hg2 hk2
  have n10_2 : w2.cell? ⟨w1.heap.size, 0, none⟩ = some (.iface t1 (.pointer (some ⟨q1, 0, none⟩))) := by rw [HLb1_w2.out.cell]; rfl
  have n11_2 : w2.cell? ⟨w1.heap.size, 1, none⟩ = some (.int .i32 lo1) := by rw [HLb1_w2.out.cell]; rfl
  have n12_2 := HLb1_w2.out.lt
  go_wp2_with fail
  obtain ⟨V2, hV⟩ : ∃ V, V = w2.alloc (.cells #[.iface t2 (.pointer (some ⟨q2, 0, none⟩)), .int .i32 lo2] 33) := ⟨_, rfl⟩
  rw [← hV]
  have hG : w2.grownBy V2 (some T) := by rw [hV]; exact gOne T _
  have hN : At V2 (w2.heap.size) 33 #[.iface t2 (.pointer (some ⟨q2, 0, none⟩)), .int .i32 lo2] := by rw [hV]; exact At.new _ _ _
  have zv2 : V2.heap.size = w2.heap.size + 1 := by rw [hV]; simp
  have HTV2 := Lib.hid (show TN V2 T (some ⟨B, off, none⟩) n cap p2 lc2 from by rw [hV]; exact At.alloc HTw2.out _)
  have HGV2 := Lib.hid (gTrans HGw2.out hG (.inl rfl))
  have HRV2 := Lib.hid (HRw2.out.grown hG (by omega))
  have HLb1_V2 := Lib.hid (HLb1_w2.out.grown hG (by omega))
  have C1_V2 := Lib.hid (C1_w2.out.grown hG (by omega))
  have C2_V2 := Lib.hid (C2_w2.out.grown hG (by omega))
  have HLb2_V2 := Lib.hid hN
  have zb2 : w.heap.size + 1 ≤ w2.heap.size ∧ w2.heap.size < V2.heap.size := by omega
  have zzV2 : w.heap.size + 1 ≤ V2.heap.size := by omega
  clear hV hG hN HGw2 HRw2 HTw2 HLb1_w2 C1_w2 C2_w2
  refine (bIfElse l1 t1 q1 lo1 t2 q2 lo2 V2).mono ?_
  rintro e Y ⟨b, rfl, hA, hb, hw⟩
  have END := Lib.hid (show ∀ u0 u1, NDP base T n cap (some ⟨B, off, none⟩) zs p w (.returned (.agg #[.iface 134 (.pointer (some ⟨b, 0, none⟩)), .int .i32 l1])) ((Y.setCell ⟨w.heap.size, 0, none⟩ u0).setCell ⟨w.heap.size, 1, none⟩ u1) from fun u0 u1 => by
      have zy := hw.size
      have lb := hA.lt
      have bnd : ∀ q, ((S1 q ∨ S2 q) ∨ q = b) → base ≤ q ∧ q < Y.heap.size := fun q hq => by
          rcases hq with (hq | hq) | rfl
          · have := C1_V2.out.2 q hq; omega
          · have := C2_V2.out.2 q hq; omega
          · omega
      refine endN (X := V2) (S' := fun q => (S1 q ∨ S2 q) ∨ q = b) (k := k1 || k2) hB lT HGV2.out (by omega) HTV2.out hw (fun q hq => ?_) (skIf2 b l1 bnd (.inr rfl) (by rw [hA.cell]; rfl) (by rw [hA.cell]; rfl) ((C1_V2.out.below hw).more (fun q hq => .inl (.inl hq)) bnd) (by rw [hA.cell]; rfl) (by rw [hA.cell]; rfl) ((C2_V2.out.below hw).more (fun q hq => .inl (.inr hq)) bnd)) (by omega) (by omega) (fun _ => by omega) (fun mm => ?_) u0 u1
      · rcases hq with (hq | hq) | rfl
        · have := C1_V2.out.2 q hq; omega
        · have := C2_V2.out.2 q hq; omega
        · omega
      · rw [Kp_step hpn hzz (by omega) (by omega), show ar z = 2 from by simp [ar, hk], show mm + 2 = (mm + 1) + 1 from rfl, HK1.out, show mm + 1 = (mm + 0) + 1 from rfl, HK2.out, Bool.or_assoc])
  have HRY := HRV2.out.below hw (by omega)
  have r0 : Y.cell? ⟨w.heap.size, 0, none⟩ = some .nilIface := by rw [HRY.cell]; rfl
  have r1 : Y.cell? ⟨w.heap.size, 1, none⟩ = some (.int .i32 0) := by rw [HRY.cell]; rfl
  have g0 := HRY.frozen 0
  have g1 := HRY.frozen 1
  have lr := HRY.lt
  clear HRY hA hw HGV2 HRV2 HTV2 HLb1_V2 HLb2_V2 C1_V2 C2_V2
  go_wp2_with fail
  exact bodyPost_ret (v := .agg #[.iface 134 (.pointer (some ⟨b, 0, none⟩)), .int .i32 l1]) (by simp [results, Try.results9, go_sem, *]) rfl (END.out _ _)

set_option maxRecDepth 100000 in
set_option maxHeartbeats 8000000 in
theorem nd12 (base n cap B off T : Nat) (zs : List Int) (hn : n ≤ 4096) (hz : ∀ i, 0 ≤ zs.getD i 0 ∧ zs.getD i 0 ≤ 255) (hbT : base ≤ T) (m : Nat) (ih : ∀ (p : Nat) (l : Int) (w : World), n - p ≤ m → p ≤ n → TN w T (some ⟨B, off, none⟩) n cap p l → Ops base w (some ⟨B, off, none⟩) n zs → Calls Try.prog 9 #[.pointer (some ⟨T, 0, none⟩)] w (NDP base T n cap (some ⟨B, off, none⟩) zs p w)) (p : Nat) (l : Int) (w : World) (hm : n - p ≤ m + 1) (hpn : p < n) (hTN : TN w T (some ⟨B, off, none⟩) n cap p l) (hO : Ops base w (some ⟨B, off, none⟩) n zs) (hBb : B < base) (z : Int) (c0 : w.cell? ⟨B, off + p, none⟩ = some (.int .u8 z)) (hzz : zs.getD p 0 = z) (z0 : 0 ≤ z) (z1 : z ≤ 255) (hk : z % 19 = 12) :
    Calls Try.prog 9 #[.pointer (some ⟨T, 0, none⟩)] w (NDP base T n cap (some ⟨B, off, none⟩) zs p w) := by
  have HO := Lib.hid hO
  have HZ := Lib.hid hz
  have HTN := Lib.hid hTN
  have lB : B < w.heap.size := World.block_lt_of_cell? _ _ c0
  have lT := hTN.lt
  have nTB : ¬ T = B := by omega
  have nBT : ¬ B = T := by omega
  have t0 : w.cell? ⟨T, 0, none⟩ = some (.slice (some ⟨B, off, none⟩) n cap) := by rw [hTN.cell]; rfl
  have t1 : w.cell? ⟨T, 1, none⟩ = some (.int .i64 p) := by rw [hTN.cell]; rfl
  have t2 : w.cell? ⟨T, 2, none⟩ = some (.int .i32 l) := by rw [hTN.cell]; rfl
  have f0 := hTN.frozen 0
  have f1 := hTN.frozen 1
  have f2 := hTN.frozen 2
  have p0 : (0 : Int) ≤ (p : Int) := Int.natCast_nonneg _
  have p1 : (p : Int) < (n : Int) := by omega
  have p2 : decide ((p : Int) ≥ (n : Int)) = false := by simp; omega
  have p3 : decide ((n : Int) ≤ (p : Int)) = false := by simp; omega
  clear hO hz hTN
  go_enter Try.func9, Try.ntmps9
  go_wp2_with fail
  go_quiet (fail)
  generalize nq = q1
  go_wp2_with fail
  go_quiet (fail)
  go_wp2_with fail
  obtain ⟨l1, hl1⟩ : ∃ x, x = wrap32 (l + 1) := ⟨_, rfl⟩
  rw [← hl1]
  obtain ⟨V0, hV⟩ : ∃ V, V = ((((w.setCell ⟨T, 2, none⟩ (.int .i32 l1)).alloc (.cells #[.nilIface, .int .i32 0] 33)).drewN (q1 + nq)).setCell ⟨T, 1, none⟩ (.int .i64 ((p : Int) + 1))) := ⟨_, rfl⟩
  have HV := Lib.hid (show V0P w T (some ⟨B, off, none⟩) n cap (p + 1) l1 V0 from by rw [hV]; exact startN HTN.out)
  rw [← hV]
  have zV := HV.out.2.2.2
  have hB : base ≤ w.heap.size := by omega
  have HT0 := Lib.hid HV.out.1
  have HR0 := Lib.hid HV.out.2.1
  have HG0 := Lib.hid HV.out.2.2.1
  have zz0 : w.heap.size + 1 ≤ V0.heap.size := by omega
  clear hl1 hV HV zV c0 t0 t1 t2 f0 f1 f2 p0 p1 p2 p3 HTN
  refine (ih (p + 1) l1 V0 (by omega) (by omega) HT0.out (HO.out.grown hB hbT HG0.out)).mono ?_
  rintro e w1 ⟨d1, lo1, p1, lc1, k1, S1, rfl, ⟨t1, q1, rfl⟩, f1, s1, pa1, pb1, pc1, ht1, hg1, hk1⟩
  have zw1 := hg1.size
  have HGw1 := Lib.hid (gTrans HG0.out hg1 (.inl rfl))
  have HRw1 := Lib.hid (HR0.out.grown hg1 (by omega))
  have C1_w1 := Lib.hid (show CH base w.heap.size w1 (.iface t1 (.pointer (some ⟨q1, 0, none⟩))) lo1 k1 S1 from ⟨f1, fun q hq => ⟨by have := s1 q hq; omega, (f1.1 q hq).2⟩⟩)
  have HTw1 := Lib.hid ht1
  have HK1 := Lib.hid hk1
  have zzw1 : w.heap.size + 1 ≤ w1.heap.size := by omega
  clear HG0 HR0 HT0 f1 s1 ht1 hg1 hk1
  go_wp2_with fail
  refine (bWhile l1 t1 q1 lo1 w1).mono ?_
  rintro e Y ⟨b, rfl, hA, hb, hw⟩
  have END := Lib.hid (show ∀ u0 u1, NDP base T n cap (some ⟨B, off, none⟩) zs p w (.returned (.agg #[.iface 140 (.pointer (some ⟨b, 0, none⟩)), .int .i32 l1])) ((Y.setCell ⟨w.heap.size, 0, none⟩ u0).setCell ⟨w.heap.size, 1, none⟩ u1) from fun u0 u1 => by
      have zy := hw.size
      have lb := hA.lt
      have bnd : ∀ q, ((S1 q) ∨ q = b) → base ≤ q ∧ q < Y.heap.size := fun q hq => by
          rcases hq with (hq) | rfl
          · have := C1_w1.out.2 q hq; omega
          · omega
      refine endN (X := w1) (S' := fun q => (S1 q) ∨ q = b) (k := k1) hB lT HGw1.out (by omega) HTw1.out hw (fun q hq => ?_) (skWhile b l1 bnd (.inr rfl) (by rw [hA.cell]; rfl) (by rw [hA.cell]; rfl) ((C1_w1.out.below hw).more (fun q hq => .inl hq) bnd)) (by omega) (by omega) (fun _ => by omega) (fun mm => ?_) u0 u1
      · rcases hq with (hq) | rfl
        · have := C1_w1.out.2 q hq; omega
        · omega
      · rw [Kp_step hpn hzz (by omega) (by omega), show ar z = 1 from by simp [ar, hk], show mm + 1 = (mm + 0) + 1 from rfl, HK1.out])
  have HRY := HRw1.out.below hw (by omega)
  have r0 : Y.cell? ⟨w.heap.size, 0, none⟩ = some .nilIface := by rw [HRY.cell]; rfl
  have r1 : Y.cell? ⟨w.heap.size, 1, none⟩ = some (.int .i32 0) := by rw [HRY.cell]; rfl
  have g0 := HRY.frozen 0
  have g1 := HRY.frozen 1
  have lr := HRY.lt
  clear HRY hA hw HGw1 HRw1 HTw1 C1_w1
  go_wp2_with fail
  exact bodyPost_ret (v := .agg #[.iface 140 (.pointer (some ⟨b, 0, none⟩)), .int .i32 l1]) (by simp [results, Try.results9, go_sem, *]) rfl (END.out _ _)

set_option maxRecDepth 100000 in
set_option maxHeartbeats 8000000 in
theorem nd13 (base n cap B off T : Nat) (zs : List Int) (hn : n ≤ 4096) (hz : ∀ i, 0 ≤ zs.getD i 0 ∧ zs.getD i 0 ≤ 255) (hbT : base ≤ T) (m : Nat) (ih : ∀ (p : Nat) (l : Int) (w : World), n - p ≤ m → p ≤ n → TN w T (some ⟨B, off, none⟩) n cap p l → Ops base w (some ⟨B, off, none⟩) n zs → Calls Try.prog 9 #[.pointer (some ⟨T, 0, none⟩)] w (NDP base T n cap (some ⟨B, off, none⟩) zs p w)) (p : Nat) (l : Int) (w : World) (hm : n - p ≤ m + 1) (hpn : p < n) (hTN : TN w T (some ⟨B, off, none⟩) n cap p l) (hO : Ops base w (some ⟨B, off, none⟩) n zs) (hBb : B < base) (z : Int) (c0 : w.cell? ⟨B, off + p, none⟩ = some (.int .u8 z)) (hzz : zs.getD p 0 = z) (z0 : 0 ≤ z) (z1 : z ≤ 255) (hk : z % 19 = 13) :
    Calls Try.prog 9 #[.pointer (some ⟨T, 0, none⟩)] w (NDP base T n cap (some ⟨B, off, none⟩) zs p w) := by
  have HO := Lib.hid hO
  have HZ := Lib.hid hz
  have HTN := Lib.hid hTN
  have lB : B < w.heap.size := World.block_lt_of_cell? _ _ c0
  have lT := hTN.lt
  have nTB : ¬ T = B := by omega
  have nBT : ¬ B = T := by omega
  have t0 : w.cell? ⟨T, 0, none⟩ = some (.slice (some ⟨B, off, none⟩) n cap) := by rw [hTN.cell]; rfl
  have t1 : w.cell? ⟨T, 1, none⟩ = some (.int .i64 p) := by rw [hTN.cell]; rfl
  have t2 : w.cell? ⟨T, 2, none⟩ = some (.int .i32 l) := by rw [hTN.cell]; rfl
  have f0 := hTN.frozen 0
  have f1 := hTN.frozen 1
  have f2 := hTN.frozen 2
  have p0 : (0 : Int) ≤ (p : Int) := Int.natCast_nonneg _
  have p1 : (p : Int) < (n : Int) := by omega
  have p2 : decide ((p : Int) ≥ (n : Int)) = false := by simp; omega
  have p3 : decide ((n : Int) ≤ (p : Int)) = false := by simp; omega
  clear hO hz hTN
  go_enter Try.func9, Try.ntmps9
  go_wp2_with fail
  go_quiet (fail)
  generalize nq = q1
  go_wp2_with fail
  go_quiet (fail)
  go_wp2_with fail
  obtain ⟨l1, hl1⟩ : ∃ x, x = wrap32 (l + 1) := ⟨_, rfl⟩
  rw [← hl1]
  obtain ⟨V0, hV⟩ : ∃ V, V = ((((w.setCell ⟨T, 2, none⟩ (.int .i32 l1)).alloc (.cells #[.nilIface, .int .i32 0] 33)).drewN (q1 + nq)).setCell ⟨T, 1, none⟩ (.int .i64 ((p : Int) + 1))) := ⟨_, rfl⟩
  have HV := Lib.hid (show V0P w T (some ⟨B, off, none⟩) n cap (p + 1) l1 V0 from by rw [hV]; exact startN HTN.out)
  rw [← hV]
  have zV := HV.out.2.2.2
  have hB : base ≤ w.heap.size := by omega
  have HT0 := Lib.hid HV.out.1
  have HR0 := Lib.hid HV.out.2.1
  have HG0 := Lib.hid HV.out.2.2.1
  have zz0 : w.heap.size + 1 ≤ V0.heap.size := by omega
  clear hl1 hV HV zV c0 t0 t1 t2 f0 f1 f2 p0 p1 p2 p3 HTN
  refine (ih (p + 1) l1 V0 (by omega) (by omega) HT0.out (HO.out.grown hB hbT HG0.out)).mono ?_
  rintro e w1 ⟨d1, lo1, p1, lc1, k1, S1, rfl, ⟨t1, q1, rfl⟩, f1, s1, pa1, pb1, pc1, ht1, hg1, hk1⟩
  have zw1 := hg1.size
  have HGw1 := Lib.hid (gTrans HG0.out hg1 (.inl rfl))
  have HRw1 := Lib.hid (HR0.out.grown hg1 (by omega))
  have C1_w1 := Lib.hid (show CH base w.heap.size w1 (.iface t1 (.pointer (some ⟨q1, 0, none⟩))) lo1 k1 S1 from ⟨f1, fun q hq => ⟨by have := s1 q hq; omega, (f1.1 q hq).2⟩⟩)
  have HTw1 := Lib.hid ht1
  have HK1 := Lib.hid hk1
  have zzw1 : w.heap.size + 1 ≤ w1.heap.size := by omega
  clear HG0 HR0 HT0 f1 s1 ht1 hg1 hk1
  go_wp2_with fail
  refine (bDoWhile l1 t1 q1 lo1 w1).mono ?_
  rintro e Y ⟨b, rfl, hA, hb, hw⟩
  have END := Lib.hid (show ∀ u0 u1, NDP base T n cap (some ⟨B, off, none⟩) zs p w (.returned (.agg #[.iface 137 (.pointer (some ⟨b, 0, none⟩)), .int .i32 l1])) ((Y.setCell ⟨w.heap.size, 0, none⟩ u0).setCell ⟨w.heap.size, 1, none⟩ u1) from fun u0 u1 => by
      have zy := hw.size
      have lb := hA.lt
      have bnd : ∀ q, ((S1 q) ∨ q = b) → base ≤ q ∧ q < Y.heap.size := fun q hq => by
          rcases hq with (hq) | rfl
          · have := C1_w1.out.2 q hq; omega
          · omega
      refine endN (X := w1) (S' := fun q => (S1 q) ∨ q = b) (k := k1) hB lT HGw1.out (by omega) HTw1.out hw (fun q hq => ?_) (skDoWhile b l1 bnd (.inr rfl) (by rw [hA.cell]; rfl) (by rw [hA.cell]; rfl) ((C1_w1.out.below hw).more (fun q hq => .inl hq) bnd)) (by omega) (by omega) (fun _ => by omega) (fun mm => ?_) u0 u1
      · rcases hq with (hq) | rfl
        · have := C1_w1.out.2 q hq; omega
        · omega
      · rw [Kp_step hpn hzz (by omega) (by omega), show ar z = 1 from by simp [ar, hk], show mm + 1 = (mm + 0) + 1 from rfl, HK1.out])
  have HRY := HRw1.out.below hw (by omega)
  have r0 : Y.cell? ⟨w.heap.size, 0, none⟩ = some .nilIface := by rw [HRY.cell]; rfl
  have r1 : Y.cell? ⟨w.heap.size, 1, none⟩ = some (.int .i32 0) := by rw [HRY.cell]; rfl
  have g0 := HRY.frozen 0
  have g1 := HRY.frozen 1
  have lr := HRY.lt
  clear HRY hA hw HGw1 HRw1 HTw1 C1_w1
  go_wp2_with fail
  exact bodyPost_ret (v := .agg #[.iface 137 (.pointer (some ⟨b, 0, none⟩)), .int .i32 l1]) (by simp [results, Try.results9, go_sem, *]) rfl (END.out _ _)

set_option maxRecDepth 100000 in
set_option maxHeartbeats 8000000 in
theorem nd14 (base n cap B off T : Nat) (zs : List Int) (hn : n ≤ 4096) (hz : ∀ i, 0 ≤ zs.getD i 0 ∧ zs.getD i 0 ≤ 255) (hbT : base ≤ T) (m : Nat) (ih : ∀ (p : Nat) (l : Int) (w : World), n - p ≤ m → p ≤ n → TN w T (some ⟨B, off, none⟩) n cap p l → Ops base w (some ⟨B, off, none⟩) n zs → Calls Try.prog 9 #[.pointer (some ⟨T, 0, none⟩)] w (NDP base T n cap (some ⟨B, off, none⟩) zs p w)) (p : Nat) (l : Int) (w : World) (hm : n - p ≤ m + 1) (hpn : p < n) (hTN : TN w T (some ⟨B, off, none⟩) n cap p l) (hO : Ops base w (some ⟨B, off, none⟩) n zs) (hBb : B < base) (z : Int) (c0 : w.cell? ⟨B, off + p, none⟩ = some (.int .u8 z)) (hzz : zs.getD p 0 = z) (z0 : 0 ≤ z) (z1 : z ≤ 255) (hk : z % 19 = 14) :
    Calls Try.prog 9 #[.pointer (some ⟨T, 0, none⟩)] w (NDP base T n cap (some ⟨B, off, none⟩) zs p w) := by
  have HO := Lib.hid hO
  have HZ := Lib.hid hz
  have HTN := Lib.hid hTN
  have lB : B < w.heap.size := World.block_lt_of_cell? _ _ c0
  have lT := hTN.lt
  have nTB : ¬ T = B := by omega
  have nBT : ¬ B = T := by omega
  have t0 : w.cell? ⟨T, 0, none⟩ = some (.slice (some ⟨B, off, none⟩) n cap) := by rw [hTN.cell]; rfl
  have t1 : w.cell? ⟨T, 1, none⟩ = some (.int .i64 p) := by rw [hTN.cell]; rfl
  have t2 : w.cell? ⟨T, 2, none⟩ = some (.int .i32 l) := by rw [hTN.cell]; rfl
  have f0 := hTN.frozen 0
  have f1 := hTN.frozen 1
  have f2 := hTN.frozen 2
  have p0 : (0 : Int) ≤ (p : Int) := Int.natCast_nonneg _
  have p1 : (p : Int) < (n : Int) := by omega
  have p2 : decide ((p : Int) ≥ (n : Int)) = false := by simp; omega
  have p3 : decide ((n : Int) ≤ (p : Int)) = false := by simp; omega
  clear hO hz hTN
  go_enter Try.func9, Try.ntmps9
  go_wp2_with fail
  go_quiet (fail)
  generalize nq = q1
  go_wp2_with fail
  go_quiet (fail)
  go_wp2_with fail
  obtain ⟨l1, hl1⟩ : ∃ x, x = wrap32 (l + 1) := ⟨_, rfl⟩
  rw [← hl1]
  obtain ⟨V0, hV⟩ : ∃ V, V = ((((w.setCell ⟨T, 2, none⟩ (.int .i32 l1)).alloc (.cells #[.nilIface, .int .i32 0] 33)).drewN (q1 + nq)).setCell ⟨T, 1, none⟩ (.int .i64 ((p : Int) + 1))) := ⟨_, rfl⟩
  have HV := Lib.hid (show V0P w T (some ⟨B, off, none⟩) n cap (p + 1) l1 V0 from by rw [hV]; exact startN HTN.out)
  rw [← hV]
  have zV := HV.out.2.2.2
  have hB : base ≤ w.heap.size := by omega
  have HT0 := Lib.hid HV.out.1
  have HR0 := Lib.hid HV.out.2.1
  have HG0 := Lib.hid HV.out.2.2.1
  have zz0 : w.heap.size + 1 ≤ V0.heap.size := by omega
  clear hl1 hV HV zV c0 t0 t1 t2 f0 f1 f2 p0 p1 p2 p3 HTN
  refine (ih (p + 1) l1 V0 (by omega) (by omega) HT0.out (HO.out.grown hB hbT HG0.out)).mono ?_
  rintro e w1 ⟨d1, lo1, p1, lc1, k1, S1, rfl, ⟨t1, q1, rfl⟩, f1, s1, pa1, pb1, pc1, ht1, hg1, hk1⟩
  have zw1 := hg1.size
  have HGw1 := Lib.hid (gTrans HG0.out hg1 (.inl rfl))
  have HRw1 := Lib.hid (HR0.out.grown hg1 (by omega))
  have C1_w1 := Lib.hid (show CH base w.heap.size w1 (.iface t1 (.pointer (some ⟨q1, 0, none⟩))) lo1 k1 S1 from ⟨f1, fun q hq => ⟨by have := s1 q hq; omega, (f1.1 q hq).2⟩⟩)
  have HTw1 := Lib.hid ht1
  have HK1 := Lib.hid hk1
  have zzw1 : w.heap.size + 1 ≤ w1.heap.size := by omega
  clear HG0 HR0 HT0 f1 s1 ht1 hg1 hk1
  go_wp2_with fail
  refine (bLabel l1 t1 q1 lo1 w1).mono ?_
  rintro e Y ⟨b, rfl, hA, hb, hw⟩
  have END := Lib.hid (show ∀ u0 u1, NDP base T n cap (some ⟨B, off, none⟩) zs p w (.returned (.agg #[.iface 152 (.pointer (some ⟨b, 0, none⟩)), .int .i32 l1])) ((Y.setCell ⟨w.heap.size, 0, none⟩ u0).setCell ⟨w.heap.size, 1, none⟩ u1) from fun u0 u1 => by
      have zy := hw.size
      have lb := hA.lt
      have bnd : ∀ q, ((S1 q) ∨ q = b) → base ≤ q ∧ q < Y.heap.size := fun q hq => by
          rcases hq with (hq) | rfl
          · have := C1_w1.out.2 q hq; omega
          · omega
      refine endN (X := w1) (S' := fun q => (S1 q) ∨ q = b) (k := k1) hB lT HGw1.out (by omega) HTw1.out hw (fun q hq => ?_) (skLabel b l1 bnd (.inr rfl) (by rw [hA.cell]; rfl) (by rw [hA.cell]; rfl) ((C1_w1.out.below hw).more (fun q hq => .inl hq) bnd)) (by omega) (by omega) (fun _ => by omega) (fun mm => ?_) u0 u1
      · rcases hq with (hq) | rfl
        · have := C1_w1.out.2 q hq; omega
        · omega
      · rw [Kp_step hpn hzz (by omega) (by omega), show ar z = 1 from by simp [ar, hk], show mm + 1 = (mm + 0) + 1 from rfl, HK1.out])
  have HRY := HRw1.out.below hw (by omega)
  have r0 : Y.cell? ⟨w.heap.size, 0, none⟩ = some .nilIface := by rw [HRY.cell]; rfl
  have r1 : Y.cell? ⟨w.heap.size, 1, none⟩ = some (.int .i32 0) := by rw [HRY.cell]; rfl
  have g0 := HRY.frozen 0
  have g1 := HRY.frozen 1
  have lr := HRY.lt
  clear HRY hA hw HGw1 HRw1 HTw1 C1_w1
  go_wp2_with fail
  exact bodyPost_ret (v := .agg #[.iface 152 (.pointer (some ⟨b, 0, none⟩)), .int .i32 l1]) (by simp [results, Try.results9, go_sem, *]) rfl (END.out _ _)

set_option maxRecDepth 100000 in
set_option maxHeartbeats 8000000 in
theorem nd15 (base n cap B off T : Nat) (zs : List Int) (hn : n ≤ 4096) (hz : ∀ i, 0 ≤ zs.getD i 0 ∧ zs.getD i 0 ≤ 255) (hbT : base ≤ T) (m : Nat) (ih : ∀ (p : Nat) (l : Int) (w : World), n - p ≤ m → p ≤ n → TN w T (some ⟨B, off, none⟩) n cap p l → Ops base w (some ⟨B, off, none⟩) n zs → Calls Try.prog 9 #[.pointer (some ⟨T, 0, none⟩)] w (NDP base T n cap (some ⟨B, off, none⟩) zs p w)) (p : Nat) (l : Int) (w : World) (hm : n - p ≤ m + 1) (hpn : p < n) (hTN : TN w T (some ⟨B, off, none⟩) n cap p l) (hO : Ops base w (some ⟨B, off, none⟩) n zs) (hBb : B < base) (z : Int) (c0 : w.cell? ⟨B, off + p, none⟩ = some (.int .u8 z)) (hzz : zs.getD p 0 = z) (z0 : 0 ≤ z) (z1 : z ≤ 255) (hk : z % 19 = 15) :
    Calls Try.prog 9 #[.pointer (some ⟨T, 0, none⟩)] w (NDP base T n cap (some ⟨B, off, none⟩) zs p w) := by
  have HO := Lib.hid hO
  have HZ := Lib.hid hz
  have HTN := Lib.hid hTN
  have lB : B < w.heap.size := World.block_lt_of_cell? _ _ c0
  have lT := hTN.lt
  have nTB : ¬ T = B := by omega
  have nBT : ¬ B = T := by omega
  have t0 : w.cell? ⟨T, 0, none⟩ = some (.slice (some ⟨B, off, none⟩) n cap) := by rw [hTN.cell]; rfl
  have t1 : w.cell? ⟨T, 1, none⟩ = some (.int .i64 p) := by rw [hTN.cell]; rfl
  have t2 : w.cell? ⟨T, 2, none⟩ = some (.int .i32 l) := by rw [hTN.cell]; rfl
  have f0 := hTN.frozen 0
  have f1 := hTN.frozen 1
  have f2 := hTN.frozen 2
  have p0 : (0 : Int) ≤ (p : Int) := Int.natCast_nonneg _
  have p1 : (p : Int) < (n : Int) := by omega
  have p2 : decide ((p : Int) ≥ (n : Int)) = false := by simp; omega
  have p3 : decide ((n : Int) ≤ (p : Int)) = false := by simp; omega
  clear hO hz hTN
  go_enter Try.func9, Try.ntmps9
  go_wp2_with fail
  go_quiet (fail)
  generalize nq = q1
  go_wp2_with fail
  go_quiet (fail)
  go_wp2_with fail
  obtain ⟨l1, hl1⟩ : ∃ x, x = wrap32 (l + 1) := ⟨_, rfl⟩
  rw [← hl1]
  obtain ⟨V0, hV⟩ : ∃ V, V = ((((w.setCell ⟨T, 2, none⟩ (.int .i32 l1)).alloc (.cells #[.nilIface, .int .i32 0] 33)).drewN (q1 + nq)).setCell ⟨T, 1, none⟩ (.int .i64 ((p : Int) + 1))) := ⟨_, rfl⟩
  have HV := Lib.hid (show V0P w T (some ⟨B, off, none⟩) n cap (p + 1) l1 V0 from by rw [hV]; exact startN HTN.out)
  rw [← hV]
  have zV := HV.out.2.2.2
  have hB : base ≤ w.heap.size := by omega
  have HT0 := Lib.hid HV.out.1
  have HR0 := Lib.hid HV.out.2.1
  have HG0 := Lib.hid HV.out.2.2.1
  have zz0 : w.heap.size + 1 ≤ V0.heap.size := by omega
  clear hl1 hV HV zV c0 t0 t1 t2 f0 f1 f2 p0 p1 p2 p3 HTN
  refine (ih (p + 1) l1 V0 (by omega) (by omega) HT0.out (HO.out.grown hB hbT HG0.out)).mono ?_
  rintro e w1 ⟨d1, lo1, p1, lc1, k1, S1, rfl, ⟨t1, q1, rfl⟩, f1, s1, pa1, pb1, pc1, ht1, hg1, hk1⟩
  have zw1 := hg1.size
  have HGw1 := Lib.hid (gTrans HG0.out hg1 (.inl rfl))
  have HRw1 := Lib.hid (HR0.out.grown hg1 (by omega))
  have C1_w1 := Lib.hid (show CH base w.heap.size w1 (.iface t1 (.pointer (some ⟨q1, 0, none⟩))) lo1 k1 S1 from ⟨f1, fun q hq => ⟨by have := s1 q hq; omega, (f1.1 q hq).2⟩⟩)
  have HTw1 := Lib.hid ht1
  have HK1 := Lib.hid hk1
  have zzw1 : w.heap.size + 1 ≤ w1.heap.size := by omega
  clear HG0 HR0 HT0 f1 s1 ht1 hg1 hk1
  go_wp2_with fail
  refine (bFor l1 t1 q1 lo1 w1).mono ?_
  rintro e Y ⟨b, rfl, hA, hb, hw⟩
  have END := Lib.hid (show ∀ u0 u1, NDP base T n cap (some ⟨B, off, none⟩) zs p w (.returned (.agg #[.iface 143 (.pointer (some ⟨b, 0, none⟩)), .int .i32 l1])) ((Y.setCell ⟨w.heap.size, 0, none⟩ u0).setCell ⟨w.heap.size, 1, none⟩ u1) from fun u0 u1 => by
      have zy := hw.size
      have lb := hA.lt
      have bnd : ∀ q, ((S1 q) ∨ q = b) → base ≤ q ∧ q < Y.heap.size := fun q hq => by
          rcases hq with (hq) | rfl
          · have := C1_w1.out.2 q hq; omega
          · omega
      refine endN (X := w1) (S' := fun q => (S1 q) ∨ q = b) (k := k1) hB lT HGw1.out (by omega) HTw1.out hw (fun q hq => ?_) (skFor1 b l1 bnd (.inr rfl) (by rw [hA.cell]; rfl) (by rw [hA.cell]; rfl) ((C1_w1.out.below hw).more (fun q hq => .inl hq) bnd) (by rw [hA.cell]; rfl)) (by omega) (by omega) (fun _ => by omega) (fun mm => ?_) u0 u1
      · rcases hq with (hq) | rfl
        · have := C1_w1.out.2 q hq; omega
        · omega
      · rw [Kp_step hpn hzz (by omega) (by omega), show ar z = 1 from by simp [ar, hk], show mm + 1 = (mm + 0) + 1 from rfl, HK1.out])
  have HRY := HRw1.out.below hw (by omega)
  have r0 : Y.cell? ⟨w.heap.size, 0, none⟩ = some .nilIface := by rw [HRY.cell]; rfl
  have r1 : Y.cell? ⟨w.heap.size, 1, none⟩ = some (.int .i32 0) := by rw [HRY.cell]; rfl
  have g0 := HRY.frozen 0
  have g1 := HRY.frozen 1
  have lr := HRY.lt
  clear HRY hA hw HGw1 HRw1 HTw1 C1_w1
  go_wp2_with fail
  exact bodyPost_ret (v := .agg #[.iface 143 (.pointer (some ⟨b, 0, none⟩)), .int .i32 l1]) (by simp [results, Try.results9, go_sem, *]) rfl (END.out _ _)

set_option maxRecDepth 100000 in
set_option maxHeartbeats 8000000 in
theorem nd16 (base n cap B off T : Nat) (zs : List Int) (hn : n ≤ 4096) (hz : ∀ i, 0 ≤ zs.getD i 0 ∧ zs.getD i 0 ≤ 255) (hbT : base ≤ T) (m : Nat) (ih : ∀ (p : Nat) (l : Int) (w : World), n - p ≤ m → p ≤ n → TN w T (some ⟨B, off, none⟩) n cap p l → Ops base w (some ⟨B, off, none⟩) n zs → Calls Try.prog 9 #[.pointer (some ⟨T, 0, none⟩)] w (NDP base T n cap (some ⟨B, off, none⟩) zs p w)) (p : Nat) (l : Int) (w : World) (hm : n - p ≤ m + 1) (hpn : p < n) (hTN : TN w T (some ⟨B, off, none⟩) n cap p l) (hO : Ops base w (some ⟨B, off, none⟩) n zs) (hBb : B < base) (z : Int) (c0 : w.cell? ⟨B, off + p, none⟩ = some (.int .u8 z)) (hzz : zs.getD p 0 = z) (z0 : 0 ≤ z) (z1 : z ≤ 255) (hk : z % 19 = 16) :
    Calls Try.prog 9 #[.pointer (some ⟨T, 0, none⟩)] w (NDP base T n cap (some ⟨B, off, none⟩) zs p w) := by
  have HO := Lib.hid hO
  have HZ := Lib.hid hz
  have HTN := Lib.hid hTN
  have lB : B < w.heap.size := World.block_lt_of_cell? _ _ c0
  have lT := hTN.lt
  have nTB : ¬ T = B := by omega
  have nBT : ¬ B = T := by omega
  have t0 : w.cell? ⟨T, 0, none⟩ = some (.slice (some ⟨B, off, none⟩) n cap) := by rw [hTN.cell]; rfl
  have t1 : w.cell? ⟨T, 1, none⟩ = some (.int .i64 p) := by rw [hTN.cell]; rfl
  have t2 : w.cell? ⟨T, 2, none⟩ = some (.int .i32 l) := by rw [hTN.cell]; rfl
  have f0 := hTN.frozen 0
  have f1 := hTN.frozen 1
  have f2 := hTN.frozen 2
  have p0 : (0 : Int) ≤ (p : Int) := Int.natCast_nonneg _
  have p1 : (p : Int) < (n : Int) := by omega
  have p2 : decide ((p : Int) ≥ (n : Int)) = false := by simp; omega
  have p3 : decide ((n : Int) ≤ (p : Int)) = false := by simp; omega
  clear hO hz hTN
  go_enter Try.func9, Try.ntmps9
  go_wp2_with fail
  go_quiet (fail)
  generalize nq = q1
  go_wp2_with fail
  go_quiet (fail)
  go_wp2_with fail
  obtain ⟨l1, hl1⟩ : ∃ x, x = wrap32 (l + 1) := ⟨_, rfl⟩
  rw [← hl1]
  obtain ⟨V0, hV⟩ : ∃ V, V = ((((w.setCell ⟨T, 2, none⟩ (.int .i32 l1)).alloc (.cells #[.nilIface, .int .i32 0] 33)).drewN (q1 + nq)).setCell ⟨T, 1, none⟩ (.int .i64 ((p : Int) + 1))) := ⟨_, rfl⟩
  have HV := Lib.hid (show V0P w T (some ⟨B, off, none⟩) n cap (p + 1) l1 V0 from by rw [hV]; exact startN HTN.out)
  rw [← hV]
  have zV := HV.out.2.2.2
  have hB : base ≤ w.heap.size := by omega
  have HT0 := Lib.hid HV.out.1
  have HR0 := Lib.hid HV.out.2.1
  have HG0 := Lib.hid HV.out.2.2.1
  have zz0 : w.heap.size + 1 ≤ V0.heap.size := by omega
  clear hl1 hV HV zV c0 t0 t1 t2 f0 f1 f2 p0 p1 p2 p3 HTN
  refine (ih (p + 1) l1 V0 (by omega) (by omega) HT0.out (HO.out.grown hB hbT HG0.out)).mono ?_
  rintro e w1 ⟨d1, lo1, p1, lc1, k1, S1, rfl, ⟨t1, q1, rfl⟩, f1, s1, pa1, pb1, pc1, ht1, hg1, hk1⟩
  have zw1 := hg1.size
  have HGw1 := Lib.hid (gTrans HG0.out hg1 (.inl rfl))
  have HRw1 := Lib.hid (HR0.out.grown hg1 (by omega))
  have C1_w1 := Lib.hid (show CH base w.heap.size w1 (.iface t1 (.pointer (some ⟨q1, 0, none⟩))) lo1 k1 S1 from ⟨f1, fun q hq => ⟨by have := s1 q hq; omega, (f1.1 q hq).2⟩⟩)
  have HTw1 := Lib.hid ht1
  have HK1 := Lib.hid hk1
  have zzw1 : w.heap.size + 1 ≤ w1.heap.size := by omega
  clear HG0 HR0 HT0 f1 s1 ht1 hg1 hk1
  go_wp2_with fail
  obtain ⟨V1, hV⟩ : ∃ V, V = w1.alloc (.cells #[.iface t1 (.pointer (some ⟨q1, 0, none⟩)), .int .i32 lo1] 33) := ⟨_, rfl⟩
  rw [← hV]
  have hG : w1.grownBy V1 (some T) := by rw [hV]; exact gOne T _
  have hN : At V1 (w1.heap.size) 33 #[.iface t1 (.pointer (some ⟨q1, 0, none⟩)), .int .i32 lo1] := by rw [hV]; exact At.new _ _ _
  have zv1 : V1.heap.size = w1.heap.size + 1 := by rw [hV]; simp
  have HTV1 := Lib.hid (show TN V1 T (some ⟨B, off, none⟩) n cap p1 lc1 from by rw [hV]; exact At.alloc HTw1.out _)
  have HGV1 := Lib.hid (gTrans HGw1.out hG (.inl rfl))
  have HRV1 := Lib.hid (HRw1.out.grown hG (by omega))
  have C1_V1 := Lib.hid (C1_w1.out.grown hG (by omega))
  have HLb1_V1 := Lib.hid hN
  have zb1 : w.heap.size + 1 ≤ w1.heap.size ∧ w1.heap.size < V1.heap.size := by omega
  have zzV1 : w.heap.size + 1 ≤ V1.heap.size := by omega
  clear hV hG hN HGw1 HRw1 HTw1 C1_w1
  refine (ih p1 lc1 V1 (by omega) (by omega) HTV1.out (HO.out.grown hB hbT HGV1.out)).mono ?_
  rintro e w2 ⟨d2, lo2, p2, lc2, k2, S2, rfl, ⟨t2, q2, rfl⟩, f2, s2, pa2, pb2, pc2, ht2, hg2, hk2⟩
  have zw2 := hg2.size
  have HGw2 := Lib.hid (gTrans HGV1.out hg2 (.inl rfl))
  have HRw2 := Lib.hid (HRV1.out.grown hg2 (by omega))
  have HLb1_w2 := Lib.hid (HLb1_V1.out.grown hg2 (by omega))
  have C1_w2 := Lib.hid (C1_V1.out.grown hg2 (by omega))
  have C2_w2 := Lib.hid (show CH base w.heap.size w2 (.iface t2 (.pointer (some ⟨q2, 0, none⟩))) lo2 k2 S2 from ⟨f2, fun q hq => ⟨by have := s2 q hq; omega, (f2.1 q hq).2⟩⟩)
  have HTw2 := Lib.hid ht2
  have HK2 := Lib.hid hk2
  have zzw2 : w.heap.size + 1 ≤ w2.heap.size := by omega
  clear HGV1 HRV1 HTV1 HLb1_V1 C1_V1 f2 s2 ht2 hg2 hk2
  have n10_2 : w2.cell? ⟨w1.heap.size, 0, none⟩ = some (.iface t1 (.pointer (some ⟨q1, 0, none⟩))) := by rw [HLb1_w2.out.cell]; rfl
  have n11_2 : w2.cell? ⟨w1.heap.size, 1, none⟩ = some (.int .i32 lo1) := by rw [HLb1_w2.out.cell]; rfl
  have n12_2 := HLb1_w2.out.lt
  go_wp2_with fail
  obtain ⟨V2, hV⟩ : ∃ V, V = w2.alloc (.cells #[.iface t2 (.pointer (some ⟨q2, 0, none⟩)), .int .i32 lo2] 33) := ⟨_, rfl⟩
  rw [← hV]
  have hG : w2.grownBy V2 (some T) := by rw [hV]; exact gOne T _
  have hN : At V2 (w2.heap.size) 33 #[.iface t2 (.pointer (some ⟨q2, 0, none⟩)), .int .i32 lo2] := by rw [hV]; exact At.new _ _ _
  have zv2 : V2.heap.size = w2.heap.size + 1 := by rw [hV]; simp
  have HTV2 := Lib.hid (show TN V2 T (some ⟨B, off, none⟩) n cap p2 lc2 from by rw [hV]; exact At.alloc HTw2.out _)
  have HGV2 := Lib.hid (gTrans HGw2.out hG (.inl rfl))
  have HRV2 := Lib.hid (HRw2.out.grown hG (by omega))
  have HLb1_V2 := Lib.hid (HLb1_w2.out.grown hG (by omega))
  have C1_V2 := Lib.hid (C1_w2.out.grown hG (by omega))
  have C2_V2 := Lib.hid (C2_w2.out.grown hG (by omega))
  have HLb2_V2 := Lib.hid hN
  have zb2 : w.heap.size + 1 ≤ w2.heap.size ∧ w2.heap.size < V2.heap.size := by omega
  have zzV2 : w.heap.size + 1 ≤ V2.heap.size := by omega
  clear hV hG hN HGw2 HRw2 HTw2 HLb1_w2 C1_w2 C2_w2
  refine (bForIn l1 t1 q1 lo1 t2 q2 lo2 V2).mono ?_
  rintro e Y ⟨b, rfl, hA, hb, hw⟩
  have END := Lib.hid (show ∀ u0 u1, NDP base T n cap (some ⟨B, off, none⟩) zs p w (.returned (.agg #[.iface 149 (.pointer (some ⟨b, 0, none⟩)), .int .i32 l1])) ((Y.setCell ⟨w.heap.size, 0, none⟩ u0).setCell ⟨w.heap.size, 1, none⟩ u1) from fun u0 u1 => by
      have zy := hw.size
      have lb := hA.lt
      have bnd : ∀ q, ((S1 q ∨ S2 q) ∨ q = b) → base ≤ q ∧ q < Y.heap.size := fun q hq => by
          rcases hq with (hq | hq) | rfl
          · have := C1_V2.out.2 q hq; omega
          · have := C2_V2.out.2 q hq; omega
          · omega
      refine endN (X := V2) (S' := fun q => (S1 q ∨ S2 q) ∨ q = b) (k := k1 || k2) hB lT HGV2.out (by omega) HTV2.out hw (fun q hq => ?_) (skForIn b l1 bnd (.inr rfl) (by rw [hA.cell]; rfl) (by rw [hA.cell]; rfl) ((C1_V2.out.below hw).more (fun q hq => .inl (.inl hq)) bnd) (by rw [hA.cell]; rfl) (by rw [hA.cell]; rfl) ((C2_V2.out.below hw).more (fun q hq => .inl (.inr hq)) bnd)) (by omega) (by omega) (fun _ => by omega) (fun mm => ?_) u0 u1
      · rcases hq with (hq | hq) | rfl
        · have := C1_V2.out.2 q hq; omega
        · have := C2_V2.out.2 q hq; omega
        · omega
      · rw [Kp_step hpn hzz (by omega) (by omega), show ar z = 2 from by simp [ar, hk], show mm + 2 = (mm + 1) + 1 from rfl, HK1.out, show mm + 1 = (mm + 0) + 1 from rfl, HK2.out, Bool.or_assoc])
  have HRY := HRV2.out.below hw (by omega)
  have r0 : Y.cell? ⟨w.heap.size, 0, none⟩ = some .nilIface := by rw [HRY.cell]; rfl
  have r1 : Y.cell? ⟨w.heap.size, 1, none⟩ = some (.int .i32 0) := by rw [HRY.cell]; rfl
  have g0 := HRY.frozen 0
  have g1 := HRY.frozen 1
  have lr := HRY.lt
  clear HRY hA hw HGV2 HRV2 HTV2 HLb1_V2 HLb2_V2 C1_V2 C2_V2
  go_wp2_with fail
  exact bodyPost_ret (v := .agg #[.iface 149 (.pointer (some ⟨b, 0, none⟩)), .int .i32 l1]) (by simp [results, Try.results9, go_sem, *]) rfl (END.out _ _)

set_option maxRecDepth 100000 in
set_option maxHeartbeats 8000000 in
theorem nd17 (base n cap B off T : Nat) (zs : List Int) (hn : n ≤ 4096) (hz : ∀ i, 0 ≤ zs.getD i 0 ∧ zs.getD i 0 ≤ 255) (hbT : base ≤ T) (m : Nat) (ih : ∀ (p : Nat) (l : Int) (w : World), n - p ≤ m → p ≤ n → TN w T (some ⟨B, off, none⟩) n cap p l → Ops base w (some ⟨B, off, none⟩) n zs → Calls Try.prog 9 #[.pointer (some ⟨T, 0, none⟩)] w (NDP base T n cap (some ⟨B, off, none⟩) zs p w)) (p : Nat) (l : Int) (w : World) (hm : n - p ≤ m + 1) (hpn : p < n) (hTN : TN w T (some ⟨B, off, none⟩) n cap p l) (hO : Ops base w (some ⟨B, off, none⟩) n zs) (hBb : B < base) (z : Int) (c0 : w.cell? ⟨B, off + p, none⟩ = some (.int .u8 z)) (hzz : zs.getD p 0 = z) (z0 : 0 ≤ z) (z1 : z ≤ 255) (hk : z % 19 = 17) :
    Calls Try.prog 9 #[.pointer (some ⟨T, 0, none⟩)] w (NDP base T n cap (some ⟨B, off, none⟩) zs p w) := by
  have HO := Lib.hid hO
  have HZ := Lib.hid hz
  have HTN := Lib.hid hTN
  have lB : B < w.heap.size := World.block_lt_of_cell? _ _ c0
  have lT := hTN.lt
  have nTB : ¬ T = B := by omega
  have nBT : ¬ B = T := by omega
  have t0 : w.cell? ⟨T, 0, none⟩ = some (.slice (some ⟨B, off, none⟩) n cap) := by rw [hTN.cell]; rfl
  have t1 : w.cell? ⟨T, 1, none⟩ = some (.int .i64 p) := by rw [hTN.cell]; rfl
  have t2 : w.cell? ⟨T, 2, none⟩ = some (.int .i32 l) := by rw [hTN.cell]; rfl
  have f0 := hTN.frozen 0
  have f1 := hTN.frozen 1
  have f2 := hTN.frozen 2
  have p0 : (0 : Int) ≤ (p : Int) := Int.natCast_nonneg _
  have p1 : (p : Int) < (n : Int) := by omega
  have p2 : decide ((p : Int) ≥ (n : Int)) = false := by simp; omega
  have p3 : decide ((n : Int) ≤ (p : Int)) = false := by simp; omega
  clear hO hz hTN
  go_enter Try.func9, Try.ntmps9
  go_wp2_with fail
  go_quiet (fail)
  generalize nq = q1
  go_wp2_with fail
  go_quiet (fail)
  go_wp2_with fail
  obtain ⟨l1, hl1⟩ : ∃ x, x = wrap32 (l + 1) := ⟨_, rfl⟩
  rw [← hl1]
  obtain ⟨V0, hV⟩ : ∃ V, V = ((((w.setCell ⟨T, 2, none⟩ (.int .i32 l1)).alloc (.cells #[.nilIface, .int .i32 0] 33)).drewN (q1 + nq)).setCell ⟨T, 1, none⟩ (.int .i64 ((p : Int) + 1))) := ⟨_, rfl⟩
  have HV := Lib.hid (show V0P w T (some ⟨B, off, none⟩) n cap (p + 1) l1 V0 from by rw [hV]; exact startN HTN.out)
  rw [← hV]
  have zV := HV.out.2.2.2
  have hB : base ≤ w.heap.size := by omega
  have HT0 := Lib.hid HV.out.1
  have HR0 := Lib.hid HV.out.2.1
  have HG0 := Lib.hid HV.out.2.2.1
  have zz0 : w.heap.size + 1 ≤ V0.heap.size := by omega
  clear hl1 hV HV zV c0 t0 t1 t2 f0 f1 f2 p0 p1 p2 p3 HTN
  refine (ih (p + 1) l1 V0 (by omega) (by omega) HT0.out (HO.out.grown hB hbT HG0.out)).mono ?_
  rintro e w1 ⟨d1, lo1, p1, lc1, k1, S1, rfl, ⟨t1, q1, rfl⟩, f1, s1, pa1, pb1, pc1, ht1, hg1, hk1⟩
  have zw1 := hg1.size
  have HGw1 := Lib.hid (gTrans HG0.out hg1 (.inl rfl))
  have HRw1 := Lib.hid (HR0.out.grown hg1 (by omega))
  have C1_w1 := Lib.hid (show CH base w.heap.size w1 (.iface t1 (.pointer (some ⟨q1, 0, none⟩))) lo1 k1 S1 from ⟨f1, fun q hq => ⟨by have := s1 q hq; omega, (f1.1 q hq).2⟩⟩)
  have HTw1 := Lib.hid ht1
  have HK1 := Lib.hid hk1
  have zzw1 : w.heap.size + 1 ≤ w1.heap.size := by omega
  clear HG0 HR0 HT0 f1 s1 ht1 hg1 hk1
  go_wp2_with fail
  obtain ⟨V1, hV⟩ : ∃ V, V = w1.alloc (.cells #[.iface t1 (.pointer (some ⟨q1, 0, none⟩)), .int .i32 lo1] 33) := ⟨_, rfl⟩
  rw [← hV]
  have hG : w1.grownBy V1 (some T) := by rw [hV]; exact gOne T _
  have hN : At V1 (w1.heap.size) 33 #[.iface t1 (.pointer (some ⟨q1, 0, none⟩)), .int .i32 lo1] := by rw [hV]; exact At.new _ _ _
  have zv1 : V1.heap.size = w1.heap.size + 1 := by rw [hV]; simp
  have HTV1 := Lib.hid (show TN V1 T (some ⟨B, off, none⟩) n cap p1 lc1 from by rw [hV]; exact At.alloc HTw1.out _)
  have HGV1 := Lib.hid (gTrans HGw1.out hG (.inl rfl))
  have HRV1 := Lib.hid (HRw1.out.grown hG (by omega))
  have C1_V1 := Lib.hid (C1_w1.out.grown hG (by omega))
  have HLb1_V1 := Lib.hid hN
  have zb1 : w.heap.size + 1 ≤ w1.heap.size ∧ w1.heap.size < V1.heap.size := by omega
  have zzV1 : w.heap.size + 1 ≤ V1.heap.size := by omega
  clear hV hG hN HGw1 HRw1 HTw1 C1_w1
  refine (ih p1 lc1 V1 (by omega) (by omega) HTV1.out (HO.out.grown hB hbT HGV1.out)).mono ?_
  rintro e w2 ⟨d2, lo2, p2, lc2, k2, S2, rfl, ⟨t2, q2, rfl⟩, f2, s2, pa2, pb2, pc2, ht2, hg2, hk2⟩
  have zw2 := hg2.size
  have HGw2 := Lib.hid (gTrans HGV1.out hg2 (.inl rfl))
  have HRw2 := Lib.hid (HRV1.out.grown hg2 (by omega))
  have HLb1_w2 := Lib.hid (HLb1_V1.out.grown hg2 (by omega))
  have C1_w2 := Lib.hid (C1_V1.out.grown hg2 (by omega))
  have C2_w2 := Lib.hid (show CH base w.heap.size w2 (.iface t2 (.pointer (some ⟨q2, 0, none⟩))) lo2 k2 S2 from ⟨f2, fun q hq => ⟨by have := s2 q hq; omega, (f2.1 q hq).2⟩⟩)
  have HTw2 := Lib.hid ht2
  have HK2 := Lib.hid hk2
  have zzw2 : w.heap.size + 1 ≤ w2.heap.size := by omega
  clear HGV1 HRV1 HTV1 HLb1_V1 C1_V1 f2 s2 ht2 hg2 hk2
  have n10_2 : w2.cell? ⟨w1.heap.size, 0, none⟩ = some (.iface t1 (.pointer (some ⟨q1, 0, none⟩))) := by rw [HLb1_w2.out.cell]; rfl
  have n11_2 : w2.cell? ⟨w1.heap.size, 1, none⟩ = some (.int .i32 lo1) := by rw [HLb1_w2.out.cell]; rfl
  have n12_2 := HLb1_w2.out.lt
  go_wp2_with fail
  obtain ⟨V2, hV⟩ : ∃ V, V = w2.alloc (.cells #[.iface t2 (.pointer (some ⟨q2, 0, none⟩)), .int .i32 lo2] 33) := ⟨_, rfl⟩
  rw [← hV]
  have hG : w2.grownBy V2 (some T) := by rw [hV]; exact gOne T _
  have hN : At V2 (w2.heap.size) 33 #[.iface t2 (.pointer (some ⟨q2, 0, none⟩)), .int .i32 lo2] := by rw [hV]; exact At.new _ _ _
  have zv2 : V2.heap.size = w2.heap.size + 1 := by rw [hV]; simp
  have HTV2 := Lib.hid (show TN V2 T (some ⟨B, off, none⟩) n cap p2 lc2 from by rw [hV]; exact At.alloc HTw2.out _)
  have HGV2 := Lib.hid (gTrans HGw2.out hG (.inl rfl))
  have HRV2 := Lib.hid (HRw2.out.grown hG (by omega))
  have HLb1_V2 := Lib.hid (HLb1_w2.out.grown hG (by omega))
  have C1_V2 := Lib.hid (C1_w2.out.grown hG (by omega))
  have C2_V2 := Lib.hid (C2_w2.out.grown hG (by omega))
  have HLb2_V2 := Lib.hid hN
  have zb2 : w.heap.size + 1 ≤ w2.heap.size ∧ w2.heap.size < V2.heap.size := by omega
  have zzV2 : w.heap.size + 1 ≤ V2.heap.size := by omega
  clear hV hG hN HGw2 HRw2 HTw2 HLb1_w2 C1_w2 C2_w2
  refine (bForOf l1 t1 q1 lo1 t2 q2 lo2 V2).mono ?_
  rintro e Y ⟨b, rfl, hA, hb, hw⟩
  have END := Lib.hid (show ∀ u0 u1, NDP base T n cap (some ⟨B, off, none⟩) zs p w (.returned (.agg #[.iface 146 (.pointer (some ⟨b, 0, none⟩)), .int .i32 l1])) ((Y.setCell ⟨w.heap.size, 0, none⟩ u0).setCell ⟨w.heap.size, 1, none⟩ u1) from fun u0 u1 => by
      have zy := hw.size
      have lb := hA.lt
      have bnd : ∀ q, ((S1 q ∨ S2 q) ∨ q = b) → base ≤ q ∧ q < Y.heap.size := fun q hq => by
          rcases hq with (hq | hq) | rfl
          · have := C1_V2.out.2 q hq; omega
          · have := C2_V2.out.2 q hq; omega
          · omega
      refine endN (X := V2) (S' := fun q => (S1 q ∨ S2 q) ∨ q = b) (k := k1 || k2) hB lT HGV2.out (by omega) HTV2.out hw (fun q hq => ?_) (skForOf b l1 bnd (.inr rfl) (by rw [hA.cell]; rfl) (by rw [hA.cell]; rfl) ((C1_V2.out.below hw).more (fun q hq => .inl (.inl hq)) bnd) (by rw [hA.cell]; rfl) (by rw [hA.cell]; rfl) ((C2_V2.out.below hw).more (fun q hq => .inl (.inr hq)) bnd)) (by omega) (by omega) (fun _ => by omega) (fun mm => ?_) u0 u1
      · rcases hq with (hq | hq) | rfl
        · have := C1_V2.out.2 q hq; omega
        · have := C2_V2.out.2 q hq; omega
        · omega
      · rw [Kp_step hpn hzz (by omega) (by omega), show ar z = 2 from by simp [ar, hk], show mm + 2 = (mm + 1) + 1 from rfl, HK1.out, show mm + 1 = (mm + 0) + 1 from rfl, HK2.out, Bool.or_assoc])
  have HRY := HRV2.out.below hw (by omega)
  have r0 : Y.cell? ⟨w.heap.size, 0, none⟩ = some .nilIface := by rw [HRY.cell]; rfl
  have r1 : Y.cell? ⟨w.heap.size, 1, none⟩ = some (.int .i32 0) := by rw [HRY.cell]; rfl
  have g0 := HRY.frozen 0
  have g1 := HRY.frozen 1
  have lr := HRY.lt
  clear HRY hA hw HGV2 HRV2 HTV2 HLb1_V2 HLb2_V2 C1_V2 C2_V2
  go_wp2_with fail
  exact bodyPost_ret (v := .agg #[.iface 146 (.pointer (some ⟨b, 0, none⟩)), .int .i32 l1]) (by simp [results, Try.results9, go_sem, *]) rfl (END.out _ _)

set_option maxRecDepth 100000 in
set_option maxHeartbeats 8000000 in
theorem nd18 (base n cap B off T : Nat) (zs : List Int) (hn : n ≤ 4096) (hz : ∀ i, 0 ≤ zs.getD i 0 ∧ zs.getD i 0 ≤ 255) (hbT : base ≤ T) (m : Nat) (ih : ∀ (p : Nat) (l : Int) (w : World), n - p ≤ m → p ≤ n → TN w T (some ⟨B, off, none⟩) n cap p l → Ops base w (some ⟨B, off, none⟩) n zs → Calls Try.prog 9 #[.pointer (some ⟨T, 0, none⟩)] w (NDP base T n cap (some ⟨B, off, none⟩) zs p w)) (p : Nat) (l : Int) (w : World) (hm : n - p ≤ m + 1) (hpn : p < n) (hTN : TN w T (some ⟨B, off, none⟩) n cap p l) (hO : Ops base w (some ⟨B, off, none⟩) n zs) (hBb : B < base) (z : Int) (c0 : w.cell? ⟨B, off + p, none⟩ = some (.int .u8 z)) (hzz : zs.getD p 0 = z) (z0 : 0 ≤ z) (z1 : z ≤ 255) (hk : z % 19 = 18) :
    Calls Try.prog 9 #[.pointer (some ⟨T, 0, none⟩)] w (NDP base T n cap (some ⟨B, off, none⟩) zs p w) := by
  have HO := Lib.hid hO
  have HZ := Lib.hid hz
  have HTN := Lib.hid hTN
  have lB : B < w.heap.size := World.block_lt_of_cell? _ _ c0
  have lT := hTN.lt
  have nTB : ¬ T = B := by omega
  have nBT : ¬ B = T := by omega
  have t0 : w.cell? ⟨T, 0, none⟩ = some (.slice (some ⟨B, off, none⟩) n cap) := by rw [hTN.cell]; rfl
  have t1 : w.cell? ⟨T, 1, none⟩ = some (.int .i64 p) := by rw [hTN.cell]; rfl
  have t2 : w.cell? ⟨T, 2, none⟩ = some (.int .i32 l) := by rw [hTN.cell]; rfl
  have f0 := hTN.frozen 0
  have f1 := hTN.frozen 1
  have f2 := hTN.frozen 2
  have p0 : (0 : Int) ≤ (p : Int) := Int.natCast_nonneg _
  have p1 : (p : Int) < (n : Int) := by omega
  have p2 : decide ((p : Int) ≥ (n : Int)) = false := by simp; omega
  have p3 : decide ((n : Int) ≤ (p : Int)) = false := by simp; omega
  clear hO hz hTN
  go_enter Try.func9, Try.ntmps9
  go_wp2_with fail
  go_quiet (fail)
  generalize nq = q1
  go_wp2_with fail
  go_quiet (fail)
  go_wp2_with fail
  obtain ⟨l1, hl1⟩ : ∃ x, x = wrap32 (l + 1) := ⟨_, rfl⟩
  rw [← hl1]
  obtain ⟨V0, hV⟩ : ∃ V, V = ((((w.setCell ⟨T, 2, none⟩ (.int .i32 l1)).alloc (.cells #[.nilIface, .int .i32 0] 33)).drewN (q1 + nq)).setCell ⟨T, 1, none⟩ (.int .i64 ((p : Int) + 1))) := ⟨_, rfl⟩
  have HV := Lib.hid (show V0P w T (some ⟨B, off, none⟩) n cap (p + 1) l1 V0 from by rw [hV]; exact startN HTN.out)
  rw [← hV]
  have zV := HV.out.2.2.2
  have hB : base ≤ w.heap.size := by omega
  have HT0 := Lib.hid HV.out.1
  have HR0 := Lib.hid HV.out.2.1
  have HG0 := Lib.hid HV.out.2.2.1
  have zz0 : w.heap.size + 1 ≤ V0.heap.size := by omega
  clear hl1 hV HV zV c0 t0 t1 t2 f0 f1 f2 p0 p1 p2 p3 HTN
  refine (ih (p + 1) l1 V0 (by omega) (by omega) HT0.out (HO.out.grown hB hbT HG0.out)).mono ?_
  rintro e w1 ⟨d1, lo1, p1, lc1, k1, S1, rfl, ⟨t1, q1, rfl⟩, f1, s1, pa1, pb1, pc1, ht1, hg1, hk1⟩
  have zw1 := hg1.size
  have HGw1 := Lib.hid (gTrans HG0.out hg1 (.inl rfl))
  have HRw1 := Lib.hid (HR0.out.grown hg1 (by omega))
  have C1_w1 := Lib.hid (show CH base w.heap.size w1 (.iface t1 (.pointer (some ⟨q1, 0, none⟩))) lo1 k1 S1 from ⟨f1, fun q hq => ⟨by have := s1 q hq; omega, (f1.1 q hq).2⟩⟩)
  have HTw1 := Lib.hid ht1
  have HK1 := Lib.hid hk1
  have zzw1 : w.heap.size + 1 ≤ w1.heap.size := by omega
  clear HG0 HR0 HT0 f1 s1 ht1 hg1 hk1
  go_wp2_with fail
  obtain ⟨V1, hV⟩ : ∃ V, V = w1.alloc (.cells #[.iface t1 (.pointer (some ⟨q1, 0, none⟩)), .int .i32 lo1] 33) := ⟨_, rfl⟩
  rw [← hV]
  have hG : w1.grownBy V1 (some T) := by rw [hV]; exact gOne T _
  have hN : At V1 (w1.heap.size) 33 #[.iface t1 (.pointer (some ⟨q1, 0, none⟩)), .int .i32 lo1] := by rw [hV]; exact At.new _ _ _
  have zv1 : V1.heap.size = w1.heap.size + 1 := by rw [hV]; simp
  have HTV1 := Lib.hid (show TN V1 T (some ⟨B, off, none⟩) n cap p1 lc1 from by rw [hV]; exact At.alloc HTw1.out _)
  have HGV1 := Lib.hid (gTrans HGw1.out hG (.inl rfl))
  have HRV1 := Lib.hid (HRw1.out.grown hG (by omega))
  have C1_V1 := Lib.hid (C1_w1.out.grown hG (by omega))
  have HLb1_V1 := Lib.hid hN
  have zb1 : w.heap.size + 1 ≤ w1.heap.size ∧ w1.heap.size < V1.heap.size := by omega
  have zzV1 : w.heap.size + 1 ≤ V1.heap.size := by omega
  clear hV hG hN HGw1 HRw1 HTw1 C1_w1
  refine (ih p1 lc1 V1 (by omega) (by omega) HTV1.out (HO.out.grown hB hbT HGV1.out)).mono ?_
  rintro e w2 ⟨d2, lo2, p2, lc2, k2, S2, rfl, ⟨t2, q2, rfl⟩, f2, s2, pa2, pb2, pc2, ht2, hg2, hk2⟩
  have zw2 := hg2.size
  have HGw2 := Lib.hid (gTrans HGV1.out hg2 (.inl rfl))
  have HRw2 := Lib.hid (HRV1.out.grown hg2 (by omega))
  have HLb1_w2 := Lib.hid (HLb1_V1.out.grown hg2 (by omega))
  have C1_w2 := Lib.hid (C1_V1.out.grown hg2 (by omega))
  have C2_w2 := Lib.hid (show CH base w.heap.size w2 (.iface t2 (.pointer (some ⟨q2, 0, none⟩))) lo2 k2 S2 from ⟨f2, fun q hq => ⟨by have := s2 q hq; omega, (f2.1 q hq).2⟩⟩)
  have HTw2 := Lib.hid ht2
  have HK2 := Lib.hid hk2
  have zzw2 : w.heap.size + 1 ≤ w2.heap.size := by omega
  clear HGV1 HRV1 HTV1 HLb1_V1 C1_V1 f2 s2 ht2 hg2 hk2
  have n10_2 : w2.cell? ⟨w1.heap.size, 0, none⟩ = some (.iface t1 (.pointer (some ⟨q1, 0, none⟩))) := by rw [HLb1_w2.out.cell]; rfl
  have n11_2 : w2.cell? ⟨w1.heap.size, 1, none⟩ = some (.int .i32 lo1) := by rw [HLb1_w2.out.cell]; rfl
  have n12_2 := HLb1_w2.out.lt
  go_wp2_with fail
  obtain ⟨V2, hV⟩ : ∃ V, V = w2.alloc (.cells #[.iface t2 (.pointer (some ⟨q2, 0, none⟩)), .int .i32 lo2] 33) := ⟨_, rfl⟩
  rw [← hV]
  have hG : w2.grownBy V2 (some T) := by rw [hV]; exact gOne T _
  have hN : At V2 (w2.heap.size) 33 #[.iface t2 (.pointer (some ⟨q2, 0, none⟩)), .int .i32 lo2] := by rw [hV]; exact At.new _ _ _
  have zv2 : V2.heap.size = w2.heap.size + 1 := by rw [hV]; simp
  have HTV2 := Lib.hid (show TN V2 T (some ⟨B, off, none⟩) n cap p2 lc2 from by rw [hV]; exact At.alloc HTw2.out _)
  have HGV2 := Lib.hid (gTrans HGw2.out hG (.inl rfl))
  have HRV2 := Lib.hid (HRw2.out.grown hG (by omega))
  have HLb1_V2 := Lib.hid (HLb1_w2.out.grown hG (by omega))
  have C1_V2 := Lib.hid (C1_w2.out.grown hG (by omega))
  have C2_V2 := Lib.hid (C2_w2.out.grown hG (by omega))
  have HLb2_V2 := Lib.hid hN
  have zb2 : w.heap.size + 1 ≤ w2.heap.size ∧ w2.heap.size < V2.heap.size := by omega
  have zzV2 : w.heap.size + 1 ≤ V2.heap.size := by omega
  clear hV hG hN HGw2 HRw2 HTw2 HLb1_w2 C1_w2 C2_w2
  refine (ih p2 lc2 V2 (by omega) (by omega) HTV2.out (HO.out.grown hB hbT HGV2.out)).mono ?_
  rintro e w3 ⟨d3, lo3, p3, lc3, k3, S3, rfl, ⟨t3, q3, rfl⟩, f3, s3, pa3, pb3, pc3, ht3, hg3, hk3⟩
  have zw3 := hg3.size
  have HGw3 := Lib.hid (gTrans HGV2.out hg3 (.inl rfl))
  have HRw3 := Lib.hid (HRV2.out.grown hg3 (by omega))
  have HLb1_w3 := Lib.hid (HLb1_V2.out.grown hg3 (by omega))
  have HLb2_w3 := Lib.hid (HLb2_V2.out.grown hg3 (by omega))
  have C1_w3 := Lib.hid (C1_V2.out.grown hg3 (by omega))
  have C2_w3 := Lib.hid (C2_V2.out.grown hg3 (by omega))
  have C3_w3 := Lib.hid (show CH base w.heap.size w3 (.iface t3 (.pointer (some ⟨q3, 0, none⟩))) lo3 k3 S3 from ⟨f3, fun q hq => ⟨by have := s3 q hq; omega, (f3.1 q hq).2⟩⟩)
  have HTw3 := Lib.hid ht3
  have HK3 := Lib.hid hk3
  have zzw3 : w.heap.size + 1 ≤ w3.heap.size := by omega
  clear HGV2 HRV2 HTV2 HLb1_V2 HLb2_V2 C1_V2 C2_V2 f3 s3 ht3 hg3 hk3
  have n10_3 : w3.cell? ⟨w1.heap.size, 0, none⟩ = some (.iface t1 (.pointer (some ⟨q1, 0, none⟩))) := by rw [HLb1_w3.out.cell]; rfl
  have n11_3 : w3.cell? ⟨w1.heap.size, 1, none⟩ = some (.int .i32 lo1) := by rw [HLb1_w3.out.cell]; rfl
  have n12_3 := HLb1_w3.out.lt
  have n20_3 : w3.cell? ⟨w2.heap.size, 0, none⟩ = some (.iface t2 (.pointer (some ⟨q2, 0, none⟩))) := by rw [HLb2_w3.out.cell]; rfl
  have n21_3 : w3.cell? ⟨w2.heap.size, 1, none⟩ = some (.int .i32 lo2) := by rw [HLb2_w3.out.cell]; rfl
  have n22_3 := HLb2_w3.out.lt
  go_wp2_with fail
  obtain ⟨V3, hV⟩ : ∃ V, V = w3.alloc (.cells #[.iface t3 (.pointer (some ⟨q3, 0, none⟩)), .int .i32 lo3] 33) := ⟨_, rfl⟩
  rw [← hV]
  have hG : w3.grownBy V3 (some T) := by rw [hV]; exact gOne T _
  have hN : At V3 (w3.heap.size) 33 #[.iface t3 (.pointer (some ⟨q3, 0, none⟩)), .int .i32 lo3] := by rw [hV]; exact At.new _ _ _
  have zv3 : V3.heap.size = w3.heap.size + 1 := by rw [hV]; simp
  have HTV3 := Lib.hid (show TN V3 T (some ⟨B, off, none⟩) n cap p3 lc3 from by rw [hV]; exact At.alloc HTw3.out _)
  have HGV3 := Lib.hid (gTrans HGw3.out hG (.inl rfl))
  have HRV3 := Lib.hid (HRw3.out.grown hG (by omega))
  have HLb1_V3 := Lib.hid (HLb1_w3.out.grown hG (by omega))
  have HLb2_V3 := Lib.hid (HLb2_w3.out.grown hG (by omega))
  have C1_V3 := Lib.hid (C1_w3.out.grown hG (by omega))
  have C2_V3 := Lib.hid (C2_w3.out.grown hG (by omega))
  have C3_V3 := Lib.hid (C3_w3.out.grown hG (by omega))
  have HLb3_V3 := Lib.hid hN
  have zb3 : w.heap.size + 1 ≤ w3.heap.size ∧ w3.heap.size < V3.heap.size := by omega
  have zzV3 : w.heap.size + 1 ≤ V3.heap.size := by omega
  clear hV hG hN HGw3 HRw3 HTw3 HLb1_w3 HLb2_w3 C1_w3 C2_w3 C3_w3
  rw [← zv3]
  obtain ⟨R, hR⟩ : ∃ R, R = V3.heap.size := ⟨_, rfl⟩
  rw [← hR]
  obtain ⟨X, hX⟩ : ∃ X, X = ((V3.alloc (.cells #[.iface t1 (.pointer (some ⟨q1, 0, none⟩)), .int .i32 lo1] 33)).alloc (.cells #[.iface t2 (.pointer (some ⟨q2, 0, none⟩)), .int .i32 lo2] 33)).alloc (.cells #[.iface t3 (.pointer (some ⟨q3, 0, none⟩)), .int .i32 lo3] 33) := ⟨_, rfl⟩
  rw [← hX]
  have hG : V3.grownBy X (some T) := by rw [hX]; exact gAlloc (gAlloc (gOne T _) _) _
  have zX : X.heap.size = R + 3 := by rw [hX]; simp [hR]
  have a1 : At X R 33 #[.iface t1 (.pointer (some ⟨q1, 0, none⟩)), .int .i32 lo1] := by rw [hX]; exact ((atNewB hR.symm _ _).alloc _).alloc _
  have a2 : At X (R + 1) 33 #[.iface t2 (.pointer (some ⟨q2, 0, none⟩)), .int .i32 lo2] := by rw [hX]; exact (atNewB (by simp [hR]) _ _).alloc _
  have a3 : At X (R + 1 + 1) 33 #[.iface t3 (.pointer (some ⟨q3, 0, none⟩)), .int .i32 lo3] := by rw [hX]; exact atNewB (by simp [hR]) _ _
  have HTX := Lib.hid (show TN X T (some ⟨B, off, none⟩) n cap p3 lc3 from (show X.heap[T]? = V3.heap[T]? from by rw [hX, Below.heap_alloc _ _ T (by simp; omega), Below.heap_alloc _ _ T (by simp; omega), Below.heap_alloc _ _ T (by omega)]).trans HTV3.out)
  have HGX := Lib.hid (gTrans HGV3.out hG (.inl rfl))
  have HRX := Lib.hid (HRV3.out.grown hG (by omega))
  have HLb1_X := Lib.hid (HLb1_V3.out.grown hG (by omega))
  have HLb2_X := Lib.hid (HLb2_V3.out.grown hG (by omega))
  have HLb3_X := Lib.hid (HLb3_V3.out.grown hG (by omega))
  have C1_X := Lib.hid (C1_V3.out.grown hG (by omega))
  have C2_X := Lib.hid (C2_V3.out.grown hG (by omega))
  have C3_X := Lib.hid (C3_V3.out.grown hG (by omega))
  clear hX hG HGV3 HRV3 HTV3 HLb1_V3 HLb2_V3 HLb3_V3 C1_V3 C2_V3 C3_V3
  refine (bTry l1 (some ⟨R, 0, none⟩) (some ⟨R + 1, 0, none⟩) (some ⟨R + 1 + 1, 0, none⟩) 1 1 1 1 1 1 X).mono ?_
  rintro e Y ⟨bc, bf, b, rfl, hA, hAc, hAf, hb, hbc, hbf, hw⟩
  have zy := hw.size
  have lb := hA.lt
  have lbc := hAc.lt
  have lbf := hAf.lt
  obtain ⟨R1, e1⟩ : ∃ x, x = R + 1 := ⟨_, rfl⟩
  obtain ⟨R2, e2⟩ : ∃ x, x = R1 + 1 := ⟨_, rfl⟩
  rw [← e1] at a2
  rw [← e1, ← e2] at a3
  rw [← e1, ← e2] at hAf
  rw [← e1] at hAc
  have bnd : ∀ q, ((((S1 q ∨ q = R) ∨ (S2 q ∨ q = R1)) ∨ (S3 q ∨ q = R2)) ∨ (q = b ∨ q = bc ∨ q = bf)) → base ≤ q ∧ q < Y.heap.size := fun q hq => by
      rcases hq with (((hq | rfl) | (hq | rfl)) | (hq | rfl)) | (rfl | rfl | rfl)
      · have := C1_X.out.2 q hq; omega
      · omega
      · have := C2_X.out.2 q hq; omega
      · omega
      · have := C3_X.out.2 q hq; omega
      all_goals omega
  have END := Lib.hid (show ∀ u0 u1, NDP base T n cap (some ⟨B, off, none⟩) zs p w (.returned (.agg #[.iface 125 (.pointer (some ⟨b, 0, none⟩)), .int .i32 l1])) ((Y.setCell ⟨w.heap.size, 0, none⟩ u0).setCell ⟨w.heap.size, 1, none⟩ u1) from fun u0 u1 => by
      refine endN (X := X) (S' := fun q => (((S1 q ∨ q = R) ∨ (S2 q ∨ q = R1)) ∨ (S3 q ∨ q = R2)) ∨ (q = b ∨ q = bc ∨ q = bf)) (k := k1 || k2 || k3) hB lT HGX.out (by omega) HTX.out hw (fun q hq => ?_) (skTry11 b bc bf l1 bnd (.inr (.inl rfl)) (.inr (.inr (.inl rfl))) (.inr (.inr (.inr rfl))) (by rw [hA.cell]; rfl) ((klOne (by omega) (by omega) (a1.below hw (by omega)) (C1_X.out.below hw)).more (fun q hq => .inl (.inl (.inl hq))) bnd) (by rw [hAc.cell]; rfl) ((klOne (by omega) (by omega) (a2.below hw (by omega)) (C2_X.out.below hw)).more (fun q hq => .inl (.inl (.inr hq))) bnd) (by rw [hAf.cell]; rfl) ((klOne (by omega) (by omega) (a3.below hw (by omega)) (C3_X.out.below hw)).more (fun q hq => .inl (.inr hq)) bnd) (by rw [hA.cell]; rfl) (by rw [hA.cell]; rfl)) (by omega) (by omega) (fun _ => by omega) (fun mm => ?_) u0 u1
      · rcases hq with (((hq | rfl) | (hq | rfl)) | (hq | rfl)) | (rfl | rfl | rfl)
        · have := C1_X.out.2 q hq; omega
        · omega
        · have := C2_X.out.2 q hq; omega
        · omega
        · have := C3_X.out.2 q hq; omega
        all_goals omega
      · rw [Kp_step hpn hzz (by omega) (by omega), show ar z = 3 from by simp [ar, hk], show mm + 3 = (mm + 2) + 1 from rfl, HK1.out, show mm + 2 = (mm + 1) + 1 from rfl, HK2.out, HK3.out, Bool.or_assoc, Bool.or_assoc])
  clear a1 a2 a3 hAc hAf bnd
  have HTXx := HTX
  have HRY := HRX.out.below hw (by omega)
  have r0 : Y.cell? ⟨w.heap.size, 0, none⟩ = some .nilIface := by rw [HRY.cell]; rfl
  have r1 : Y.cell? ⟨w.heap.size, 1, none⟩ = some (.int .i32 0) := by rw [HRY.cell]; rfl
  have g0 := HRY.frozen 0
  have g1 := HRY.frozen 1
  have lr := HRY.lt
  clear HRY hA hw HGX HRX HTX HLb1_X HLb2_X HLb3_X C1_X C2_X C3_X
  go_wp2_with fail
  exact bodyPost_ret (v := .agg #[.iface 125 (.pointer (some ⟨b, 0, none⟩)), .int .i32 l1]) (by simp [results, Try.results9, go_sem, *]) rfl (END.out _ _)

theorem nd (base n cap T : Nat) (a : Option Addr) (zs : List Int) (hn : n ≤ 4096) (hz : ∀ i, 0 ≤ zs.getD i 0 ∧ zs.getD i 0 ≤ 255) (hbT : base ≤ T) : ∀ (m p : Nat) (l : Int) (w : World), n - p ≤ m → p ≤ n → TN w T a n cap p l → Ops base w a n zs → Calls Try.prog 9 #[.pointer (some ⟨T, 0, none⟩)] w (NDP base T n cap a zs p w) := by
  intro m
  induction m with
  | zero =>
    intro p l w hm hp hTN hO
    exact ndOut base n cap T a zs hbT p l w (by omega) hTN
  | succ m ih =>
    intro p l w hm hp hTN hO
    by_cases hpn : p < n
    · obtain ⟨B, off, rfl, hBg, hc⟩ := hO (by omega)
      have c0 := hc p hpn
      obtain ⟨z0, z1⟩ := hz p
      obtain ⟨z, hzz⟩ : ∃ z, z = zs.getD p 0 := ⟨_, rfl⟩
      rw [← hzz] at c0 z0 z1
      rcases (show z % 19 = 0 ∨ z % 19 = 1 ∨ z % 19 = 2 ∨ z % 19 = 3 ∨ z % 19 = 4 ∨ z % 19 = 5 ∨ z % 19 = 6 ∨ z % 19 = 7 ∨ z % 19 = 8 ∨ z % 19 = 9 ∨ z % 19 = 10 ∨ z % 19 = 11 ∨ z % 19 = 12 ∨ z % 19 = 13 ∨ z % 19 = 14 ∨ z % 19 = 15 ∨ z % 19 = 16 ∨ z % 19 = 17 ∨ z % 19 = 18 by omega) with hk | hk | hk | hk | hk | hk | hk | hk | hk | hk | hk | hk | hk | hk | hk | hk | hk | hk | hk
      · exact nd0 base n cap B off T zs hn hz hbT m ih p l w hm hpn hTN hO hBg z c0 hzz.symm z0 z1 hk
      · exact nd1 base n cap B off T zs hn hz hbT m ih p l w hm hpn hTN hO hBg z c0 hzz.symm z0 z1 hk
      · exact nd2 base n cap B off T zs hn hz hbT m ih p l w hm hpn hTN hO hBg z c0 hzz.symm z0 z1 hk
      · exact nd3 base n cap B off T zs hn hz hbT m ih p l w hm hpn hTN hO hBg z c0 hzz.symm z0 z1 hk
      · exact nd4 base n cap B off T zs hn hz hbT m ih p l w hm hpn hTN hO hBg z c0 hzz.symm z0 z1 hk
      · exact nd5 base n cap B off T zs hn hz hbT m ih p l w hm hpn hTN hO hBg z c0 hzz.symm z0 z1 hk
      · exact nd6 base n cap B off T zs hn hz hbT m ih p l w hm hpn hTN hO hBg z c0 hzz.symm z0 z1 hk
      · exact nd7 base n cap B off T zs hn hz hbT m ih p l w hm hpn hTN hO hBg z c0 hzz.symm z0 z1 hk
      · exact nd8 base n cap B off T zs hn hz hbT m ih p l w hm hpn hTN hO hBg z c0 hzz.symm z0 z1 hk
      · exact nd9 base n cap B off T zs hn hz hbT m ih p l w hm hpn hTN hO hBg z c0 hzz.symm z0 z1 hk
      · exact nd10 base n cap B off T zs hn hz hbT m ih p l w hm hpn hTN hO hBg z c0 hzz.symm z0 z1 hk
      · exact nd11 base n cap B off T zs hn hz hbT m ih p l w hm hpn hTN hO hBg z c0 hzz.symm z0 z1 hk
      · exact nd12 base n cap B off T zs hn hz hbT m ih p l w hm hpn hTN hO hBg z c0 hzz.symm z0 z1 hk
      · exact nd13 base n cap B off T zs hn hz hbT m ih p l w hm hpn hTN hO hBg z c0 hzz.symm z0 z1 hk
      · exact nd14 base n cap B off T zs hn hz hbT m ih p l w hm hpn hTN hO hBg z c0 hzz.symm z0 z1 hk
      · exact nd15 base n cap B off T zs hn hz hbT m ih p l w hm hpn hTN hO hBg z c0 hzz.symm z0 z1 hk
      · exact nd16 base n cap B off T zs hn hz hbT m ih p l w hm hpn hTN hO hBg z c0 hzz.symm z0 z1 hk
      · exact nd17 base n cap B off T zs hn hz hbT m ih p l w hm hpn hTN hO hBg z c0 hzz.symm z0 z1 hk
      · exact nd18 base n cap B off T zs hn hz hbT m ih p l w hm hpn hTN hO hBg z c0 hzz.symm z0 z1 hk
    · exact ndOut base n cap T a zs hbT p l w (by omega) hTN
end Go.Proofs.Ytppcfibhpgjnoaa
