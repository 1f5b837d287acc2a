/- Proved here: the contract of zzBuildExpr. Conditions: the arguments' cells, as stated. -/
import Derived.Test.YtjcblmbndkacgaaEHC
import Derived.Test.YtjcblmbndkacgaaAPX
import Derived.WalkKit
import Derived.WalkSpells
import Derived.WalkLawsBesides
import Derived.Lib.Hide
import Derived.Lib.SliceRun
import Derived.Deep.RegionWith
import Derived.OwnWalk
import Derived.Laws.OwnMore
import Derived.Deep.AppendLies
import Derived.BigRegion
namespace Go.Proofs.Ytjcblmbndkacgaa
open Go.RowKit
set_option linter.unusedSimpArgs false
set_option linter.unusedVariables false

theorem ownSet {w : World} {B : Nat} {e : TypeId} {sz : Nat} {v : Value} {n : Nat} {xs : List Value} (h : w.ownsRow B e sz v n xs) {k : Nat} (hne : v.ownBlock ≠ some k) (i : Nat) (u : Value) : (w.setCell ⟨k, i, none⟩ u).ownsRow B e sz v n xs :=
  own_keep h (fun r hr => Below.heap_setCell w ⟨k, i, none⟩ u r (fun e => hne (by rw [hr, e])))
theorem setAt (cs : Array Value) (i : Nat) (v : Value) (h : i < cs.size) : (cs.setIfInBounds i v)[i]? = some v := by simp [h]
structure Built (BB j : Nat) (k : Nat → Int) (blk : Nat → Nat) (cs as_ os bs : Array Value) (w : World) : Prop where
  hb : ∀ p, p < j → BB ≤ blk p ∧ blk p < w.heap.size
  inj : ∀ p q, p < j → q < j → blk p = blk q → p = q
  ex : ∀ p, p < j → cs[p * 2]? = some (dat (k p) (blk p)) ∧ cs[p * 2 + 1]? = some (.int .i32 0)
  pa : ∀ p, p < j → k p = 1 → as_[p]? = some (.pointer (some ⟨blk p, 0, none⟩))
  po : ∀ p, p < j → k p = 2 → os[p]? = some (.pointer (some ⟨blk p, 0, none⟩))
  pb : ∀ p, p < j → k p = 3 ∨ k p = 4 → bs[p]? = some (.pointer (some ⟨blk p, 0, none⟩))
  na : ∀ p, p < j → k p = 1 → At w (blk p) 55 #[.slice none 0 0, .int .i32 0, .int .i32 0, .bool false, .bool false]
  no : ∀ p, p < j → k p = 2 → At w (blk p) 65 #[.slice none 0 0, .int .i32 0, .int .i32 0, .bool false, .bool false]
  n3 : ∀ p, p < j → k p = 3 → At w (blk p) 69 #[.nilIface, .int .i32 0, .nilIface, .int .i32 0, .int .u8 37, .bool false]
  n4 : ∀ p, p < j → k p = 4 → At w (blk p) 69 #[.nilIface, .int .i32 0, .nilIface, .int .i32 0, .int .u8 11, .bool false]
theorem Built.next {BB j : Nat} {k : Nat → Int} {blk : Nat → Nat} {cs as_ os bs cs' as_' os' bs' : Array Value} {w w' : World} (h : Built BB j k blk cs as_ os bs w) (hx : Ex BB w w') (g : Nat) (hg : g = w.heap.size) (hg' : g < w'.heap.size) (hBB : BB ≤ w.heap.size)
    (h1 : cs'[j * 2]? = some (dat (k j) g)) (h2 : cs'[j * 2 + 1]? = some (.int .i32 0)) (h3 : ∀ q, q ≠ j * 2 → q ≠ j * 2 + 1 → cs'[q]? = cs[q]?)
    (ha : k j = 1 → as_'[j]? = some (.pointer (some ⟨g, 0, none⟩))) (ha' : ∀ q, q ≠ j → as_'[q]? = as_[q]?)
    (ho : k j = 2 → os'[j]? = some (.pointer (some ⟨g, 0, none⟩))) (ho' : ∀ q, q ≠ j → os'[q]? = os[q]?)
    (hb : k j = 3 ∨ k j = 4 → bs'[j]? = some (.pointer (some ⟨g, 0, none⟩))) (hb' : ∀ q, q ≠ j → bs'[q]? = bs[q]?)
    (na : k j = 1 → At w' g 55 #[.slice none 0 0, .int .i32 0, .int .i32 0, .bool false, .bool false]) (no : k j = 2 → At w' g 65 #[.slice none 0 0, .int .i32 0, .int .i32 0, .bool false, .bool false]) (n3 : k j = 3 → At w' g 69 #[.nilIface, .int .i32 0, .nilIface, .int .i32 0, .int .u8 37, .bool false]) (n4 : k j = 4 → At w' g 69 #[.nilIface, .int .i32 0, .nilIface, .int .i32 0, .int .u8 11, .bool false]) :
    Built BB (j + 1) k (fun q => if q = j then g else blk q) cs' as_' os' bs' w' := by
  have hk : ∀ p, p < j → w'.heap[blk p]? = w.heap[blk p]? := fun p hp => hx.2 _ (h.hb p hp).1 (h.hb p hp).2
  have hs := hx.1
  refine ⟨fun p hp => ?_, fun p q hp hq => ?_, fun p hp => ?_, fun p hp => ?_, fun p hp => ?_, fun p hp => ?_, fun p hp => ?_, fun p hp => ?_, fun p hp => ?_, fun p hp => ?_⟩
  · by_cases e : p = j
    · simp only [if_pos e]; omega
    · simp only [if_neg e]; have := h.hb p (by omega); omega
  · by_cases e : p = j
    · by_cases e' : q = j
      · intro _; omega
      · simp only [if_pos e, if_neg e']; intro he; have := h.hb q (by omega); omega
    · by_cases e' : q = j
      · simp only [if_neg e, if_pos e']; intro he; have := h.hb p (by omega); omega
      · simp only [if_neg e, if_neg e']; exact h.inj p q (by omega) (by omega)
  · by_cases e : p = j
    · subst e; simp only [if_true]; exact ⟨h1, h2⟩
    · simp only [if_neg e]; rw [h3 _ (by omega) (by omega), h3 _ (by omega) (by omega)]; exact h.ex p (by omega)
  · by_cases e : p = j
    · subst e; simp only [if_true]; exact ha
    · simp only [if_neg e]; rw [ha' p e]; exact h.pa p (by omega)
  · by_cases e : p = j
    · subst e; simp only [if_true]; exact ho
    · simp only [if_neg e]; rw [ho' p e]; exact h.po p (by omega)
  · by_cases e : p = j
    · subst e; simp only [if_true]; exact hb
    · simp only [if_neg e]; rw [hb' p e]; exact h.pb p (by omega)
  · by_cases e : p = j
    · subst e; simp only [if_true]; exact na
    · simp only [if_neg e]; intro he; exact (hk p (by omega)).trans (h.na p (by omega) he)
  · by_cases e : p = j
    · subst e; simp only [if_true]; exact no
    · simp only [if_neg e]; intro he; exact (hk p (by omega)).trans (h.no p (by omega) he)
  · by_cases e : p = j
    · subst e; simp only [if_true]; exact n3
    · simp only [if_neg e]; intro he; exact (hk p (by omega)).trans (h.n3 p (by omega) he)
  · by_cases e : p = j
    · subst e; simp only [if_true]; exact n4
    · simp only [if_neg e]; intro he; exact (hk p (by omega)).trans (h.n4 p (by omega) he)

theorem Built.forest {BB n : Nat} {k : Nat → Int} {blk : Nat → Nat} {cs as_ os bs : Array Value} {w : World} (h : Built BB n k blk cs as_ os bs w) (hk : ∀ p, 0 ≤ k p ∧ k p ≤ 4) : Forest BB n 1 k blk (fun _ => none) w := by
  refine ⟨h.hb, h.inj, fun p r e => (by cases e), fun p q r e => (by cases e), fun p hp => ?_⟩
  have := hk p
  have hc : k p = 0 ∨ k p = 1 ∨ k p = 2 ∨ k p = 3 ∨ k p = 4 := by omega
  rcases hc with e | e | e | e | e
  · exact .inl e
  · have ha := h.na p hp e
    exact .inr (.inl ⟨e, none, 0, 0, [], (ha.cell 0).trans rfl, ha.frozen 0, ⟨rfl, .inl ⟨rfl, rfl⟩⟩, rfl, by omega, fun q hq => absurd hq (by omega)⟩)
  · have ha := h.no p hp e
    exact .inr (.inr (.inl ⟨e, none, 0, 0, [], (ha.cell 0).trans rfl, ha.frozen 0, ⟨rfl, .inl ⟨rfl, rfl⟩⟩, rfl, by omega, fun q hq => absurd hq (by omega)⟩))
  · have ha := h.n3 p hp e
    exact .inr (.inr (.inr ⟨.inl e, .nilIface, .nilIface, .inl rfl, .inl rfl, (ha.cell 0).trans rfl, (ha.cell 1).trans rfl, (ha.cell 2).trans rfl, (ha.cell 3).trans rfl, (ha.cell 4).trans (by rw [e]; rfl), fun o => ha.frozen o⟩))
  · have ha := h.n4 p hp e
    exact .inr (.inr (.inr ⟨.inr e, .nilIface, .nilIface, .inl rfl, .inl rfl, (ha.cell 0).trans rfl, (ha.cell 1).trans rfl, (ha.cell 2).trans rfl, (ha.cell 3).trans rfl, (ha.cell 4).trans (by rw [e]; rfl), fun o => ha.frozen o⟩))

theorem arrStep {BB n j : Nat} {k : Nat → Int} {blk : Nat → Nat} {Rw : Nat → Option Nat} {w w1 : World} (F : Forest BB n j k blk Rw w) (q : Nat) (hq : q < j) (hj : j < n) (hk : k q = 1) (hBB : BB ≤ w.heap.size) {a : Option Addr} {m c gg cap : Nat} {xs : List Value} {o : Obj} {d : Value} (hd : d = dat (k j) (blk j))
    (hc : w.cell? ⟨blk q, 0, none⟩ = some (.slice a m c)) (hf : w.frozen? ⟨blk q, 0, none⟩ = false) (hl : xs.length = m * 2) (hr : (Value.slice a m c).ownBlock = Rw q) (hm : m ≤ j) (hi : ItemsA n k blk q m xs)
    (hown1 : w1.ownsRow BB 32 2 (.slice (some ⟨gg, 0, none⟩) (m + 1) cap) (m + 1) (xs ++ [d, .int .i32 0])) (hgrow : ((w.alloc o).drew).grownBy w1 (Value.slice a m c).ownBlock) (hat : (Value.slice a m c).ownBlock = some gg ∨ gg = w.heap.size + 1) (hlt : gg < w1.heap.size) :
    Forest BB n (j + 1) k blk (fun x => if x = q then some gg else Rw x) (w1.setCell ⟨blk q, 0, none⟩ (.slice (some ⟨gg, 0, none⟩) (m + 1) cap)) := by
  have hqn : q < n := by omega
  have hbq := F.hb q hqn
  have hsz := hgrow.size
  have hsz' : w.heap.size + 1 ≤ w1.heap.size := by simpa using hsz
  have hne : (Value.slice a m c).ownBlock ≠ some (blk q) := fun e => (F.hr q _ (hr ▸ e)).2.2 q hqn rfl
  have c1 : w1.cell? ⟨blk q, 0, none⟩ = some (.slice a m c) := by rw [hgrow.cell_far _ (by simp; omega) (Ne.symm hne)]; simp [go_sem, *]
  have f1 : w1.frozen? ⟨blk q, 0, none⟩ = false := by rw [hgrow.frozen_far _ (by simp; omega) (Ne.symm hne)]; simp [go_sem, *]
  have hgb : gg ≠ blk q := by
    rcases hat with e | e
    · exact fun e' => hne (by rw [e, e'])
    · omega
  refine F.step q hqn (some gg) (by simp [World.setCell]; omega) hBB ?_ ?_ ?_
  · intro b hb h1 h2
    rw [Below.heap_setCell _ _ _ b (by simpa using h1), hgrow.block b (by simp; omega) (fun e => h2 (by rw [← hr, e]))]
    exact Below.heap_alloc w o b hb
  · exact .inr (.inl ⟨hk, some ⟨gg, 0, none⟩, m + 1, cap, _, by simp [go_sem, c1, f1], by simp [go_sem, c1, f1], ownSet hown1 (by simp [Value.ownBlock]; exact hgb) 0 _, rfl, by omega, hi.snoc hl _ ⟨j, hq, hj, hd⟩⟩)
  · rcases hat with e | e
    · exact .inl (by rw [← hr, e])
    · exact .inr ⟨gg, rfl, by omega, by simpa [World.setCell] using hlt⟩

theorem objStep {BB n j : Nat} {k : Nat → Int} {blk : Nat → Nat} {Rw : Nat → Option Nat} {w w1 : World} (F : Forest BB n j k blk Rw w) (q : Nat) (hq : q < j) (hj : j < n) (hk : k q = 2) (hBB : BB ≤ w.heap.size) {a : Option Addr} {m c gg cap : Nat} {xs : List Value} {s : Int} {o : Obj} {d : Value} (hd : d = dat (k j) (blk j))
    (hc : w.cell? ⟨blk q, 0, none⟩ = some (.slice a m c)) (hf : w.frozen? ⟨blk q, 0, none⟩ = false) (hl : xs.length = m * 12) (hr : (Value.slice a m c).ownBlock = Rw q) (hm : m ≤ j) (hi : ItemsO n k blk q m xs)
    (hown1 : w1.ownsRow BB 62 12 (.slice (some ⟨gg, 0, none⟩) (m + 1) cap) (m + 1) (xs ++ [.pointer none, .nilIface, .int .i32 0, d, .int .i32 0, .nilIface, .int .i32 0, .slice none 0 0, .int .i32 0, .int .i32 0, .int .u8 s, .int .u8 0])) (hgrow : ((w.alloc o).drew).grownBy w1 (Value.slice a m c).ownBlock) (hat : (Value.slice a m c).ownBlock = some gg ∨ gg = w.heap.size + 1) (hlt : gg < w1.heap.size) :
    Forest BB n (j + 1) k blk (fun x => if x = q then some gg else Rw x) (w1.setCell ⟨blk q, 0, none⟩ (.slice (some ⟨gg, 0, none⟩) (m + 1) cap)) := by
  have hqn : q < n := by omega
  have hbq := F.hb q hqn
  have hsz := hgrow.size
  have hsz' : w.heap.size + 1 ≤ w1.heap.size := by simpa using hsz
  have hne : (Value.slice a m c).ownBlock ≠ some (blk q) := fun e => (F.hr q _ (hr ▸ e)).2.2 q hqn rfl
  have c1 : w1.cell? ⟨blk q, 0, none⟩ = some (.slice a m c) := by rw [hgrow.cell_far _ (by simp; omega) (Ne.symm hne)]; simp [go_sem, *]
  have f1 : w1.frozen? ⟨blk q, 0, none⟩ = false := by rw [hgrow.frozen_far _ (by simp; omega) (Ne.symm hne)]; simp [go_sem, *]
  have hgb : gg ≠ blk q := by
    rcases hat with e | e
    · exact fun e' => hne (by rw [e, e'])
    · omega
  refine F.step q hqn (some gg) (by simp [World.setCell]; omega) hBB ?_ ?_ ?_
  · intro b hb h1 h2
    rw [Below.heap_setCell _ _ _ b (by simpa using h1), hgrow.block b (by simp; omega) (fun e => h2 (by rw [← hr, e]))]
    exact Below.heap_alloc w o b hb
  · exact .inr (.inr (.inl ⟨hk, some ⟨gg, 0, none⟩, m + 1, cap, _, by simp [go_sem, c1, f1], by simp [go_sem, c1, f1], ownSet hown1 (by simp [Value.ownBlock]; exact hgb) 0 _, rfl, by omega, hi.snoc hl _ s ⟨j, hq, hj, hd⟩⟩))
  · rcases hat with e | e
    · exact .inl (by rw [← hr, e])
    · exact .inr ⟨gg, rfl, by omega, by simpa [World.setCell] using hlt⟩

theorem Forest.alloc {BB n i : Nat} {k : Nat → Int} {blk : Nat → Nat} {Rw : Nat → Option Nat} {w : World} (h : Forest BB n i k blk Rw w) (o : Obj) : Forest BB n i k blk Rw (w.alloc o) :=
  ⟨fun p hp => ⟨(h.hb p hp).1, by have := (h.hb p hp).2; simp; omega⟩, h.inj, fun p r hr => ⟨(h.hr p r hr).1, by have := (h.hr p r hr).2.1; simp; omega, (h.hr p r hr).2.2⟩, h.rinj, fun p hp => (h.node p hp).keep (Below.heap_alloc w o _ (h.hb p hp).2) (fun r hr => Below.heap_alloc w o r (h.hr p r hr).2.1)⟩
theorem Forest.drew {BB n i : Nat} {k : Nat → Int} {blk : Nat → Nat} {Rw : Nat → Option Nat} {w : World} (h : Forest BB n i k blk Rw w) : Forest BB n i k blk Rw w.drew :=
  ⟨h.hb, h.inj, h.hr, h.rinj, fun p hp => (h.node p hp).keep rfl (fun _ _ => rfl)⟩
theorem binStep {BB n j : Nat} {k : Nat → Int} {blk : Nat → Nat} {Rw : Nat → Option Nat} {w : World} (F : Forest BB n j k blk Rw w) (q : Nat) (hq : q < j) (hj : j < n) (hk : k q = 3 ∨ k q = 4) (hBB : BB ≤ w.heap.size) (hn : NodeB n k blk w q) (right : Bool) {e : Value} (he : e = dat (k j) (blk j)) :
    Forest BB n (j + 1) k blk (fun x => if x = q then Rw q else Rw x) ((w.setCell ⟨blk q, if right then 2 else 0, none⟩ e).setCell ⟨blk q, if right then 3 else 1, none⟩ (.int .i32 0)) := by
  have hqn : q < n := by omega
  obtain ⟨d, d', h1, h2, h3, h4, h5, h6, h7, h8⟩ := hn
  subst he
  have g0 := h8 0
  have g1 := h8 1
  have g2 := h8 2
  have g3 := h8 3
  have g4 := h8 4
  refine F.step q hqn (Rw q) (by simp [World.setCell]) hBB ?_ ?_ (.inl rfl)
  · intro b hb e1 e2
    rw [Below.heap_setCell _ _ _ b (by simpa using e1), Below.heap_setCell _ _ _ b (by simpa using e1)]
  · cases right
    · exact .inr (.inr (.inr ⟨hk, dat (k j) (blk j), d', .inr ⟨j, hq, hj, rfl⟩, h2, by simp [go_sem, h3, h4, g0, g1], by simp [go_sem, h3, h4, g0, g1], by simp [go_sem, h3, h4, h5, g0, g1], by simp [go_sem, h3, h4, h6, g0, g1], by simp [go_sem, h3, h4, h7, g0, g1], fun o => by simp [go_sem, h8]⟩))
    · exact .inr (.inr (.inr ⟨hk, d, dat (k j) (blk j), h1, dat_is _ _, by simp [go_sem, h3, h5, h6, g2, g3], by simp [go_sem, h4, h5, h6, g2, g3], by simp [go_sem, h5, h6, g2, g3], by simp [go_sem, h5, h6, g2, g3], by simp [go_sem, h7, h5, h6, g2, g3], fun o => by simp [go_sem, h8]⟩))

theorem info32 : (Try.prog.info? 32).map (fun i => (i.zero, i.size, i.bytes)) = some (some (.agg #[.nilIface, .int .i32 0]), 2, 24) := by kernel_rfl
theorem info62 : (Try.prog.info? 62).map (fun i => (i.zero, i.size, i.bytes)) = some (some (.agg #[.pointer none, .nilIface, .int .i32 0, .nilIface, .int .i32 0, .nilIface, .int .i32 0, .slice none 0 0, .int .i32 0, .int .i32 0, .int .u8 0, .int .u8 0]), 12, 120) := by kernel_rfl
def B1 (n : Nat) (k : Nat → Int) (H : Nat) (w : World) (i : Value) (wr : World) : Prop :=
  ∃ (j : Nat) (blk : Nat → Nat) (cs as_ os bs : Array Value), j ≤ n ∧ i = .int .i64 j ∧ Hid (At wr (H + 1) 32 cs) ∧ Hid (At wr (H + 1 + 1) 53 as_) ∧ Hid (At wr (H + 1 + 1 + 1) 56 os) ∧ Hid (At wr (H + 1 + 1 + 1 + 1) 66 bs) ∧ Hid (cs.size = n * 2 ∧ as_.size = n ∧ os.size = n ∧ bs.size = n) ∧ Hid (Built (H + 5) j k blk cs as_ os bs wr) ∧ Hid (Below w.heap.size w wr) ∧ Hid (At wr H 32 #[.nilIface, .int .i32 0]) ∧ H + 5 ≤ wr.heap.size
def B2 (n : Nat) (k : Nat → Int) (H : Nat) (blk : Nat → Nat) (cs as_ os bs : Array Value) (w : World) (i : Value) (wr : World) : Prop :=
  ∃ (j : Nat) (Rw : Nat → Option Nat), 1 ≤ j ∧ j ≤ n ∧ i = .int .i64 j ∧ Hid (At wr (H + 1) 32 cs) ∧ Hid (At wr (H + 1 + 1) 53 as_) ∧ Hid (At wr (H + 1 + 1 + 1) 56 os) ∧ Hid (At wr (H + 1 + 1 + 1 + 1) 66 bs) ∧ Hid (Forest (H + 5) n j k blk Rw wr) ∧ Hid (Below w.heap.size w wr) ∧ Hid (At wr H 32 #[.nilIface, .int .i32 0]) ∧ H + 5 ≤ wr.heap.size
def BuP (w : World) (e : Ending) (w' : World) : Prop := ∃ d t, e = .returned (.agg #[d, .int .i32 0]) ∧ IsE d ∧ EH w.heap.size w' d t ∧ Below w.heap.size w w'
theorem kd_lit {zs : List Int} {j : Nat} {z K : Int} (h : z = zs.getD j 0) (hk : z % 5 = K) : kd zs j = K := by unfold kd; rw [← h]; exact hk
set_option maxRecDepth 100000 in
set_option maxHeartbeats 16000000 in
theorem build (B off n cap : Nat) (zs : List Int) (Pb Sb : Nat) (ps ss : Array Value) (a3 : Option Addr) (n3 cap3 : Nat) (f : Nat → Bool) (w : World) (hc : ∀ i, i < n → w.cell? ⟨B, off + i, none⟩ = some (.int .u8 (zs.getD i 0))) (hz : ∀ i, 0 ≤ zs.getD i 0 ∧ zs.getD i 0 ≤ 255) (hp : At w Pb 3 ps) (hs : At w Sb 3 ss) (hpi : Ints ps n (ParOk zs)) (hsi : Ints ss n (fun _ _ => True)) (hr : RowV w a3 n3 (fun i => .bool (f i))) (hn3 : n3 ≤ 65536) (hn : n ≤ 65536) (h0 : 0 < n) :
    Calls Try.prog 17 #[.slice (some ⟨B, off, none⟩) n cap, .slice (some ⟨Pb, 0, none⟩) n n, .slice (some ⟨Sb, 0, none⟩) n n, .slice a3 n3 cap3] w (BuP w) := by
  obtain ⟨i0, hi0, hz0, hz1, hz2⟩ := info_parts info32
  obtain ⟨i1, hi1, hy0, hy1, hy2⟩ := info_parts info62
  have J0 := Lib.hid hi0
  have J00 := Lib.hid hz0
  have J01 := Lib.hid hz1
  have J02 := Lib.hid hz2
  have J1 := Lib.hid hi1
  have J10 := Lib.hid hy0
  have J11 := Lib.hid hy1
  have J12 := Lib.hid hy2
  clear hi0 hz0 hz1 hz2 hi1 hy0 hy1 hy2
  have hmk1 := fun (w : World) => made (P := Try.prog) (t := 25) (e := 32) (z := .agg #[.nilIface, .int .i32 0]) (sz := 2) (by_ := 24) Try.underlying25 (by kernel_rfl) w n (by omega) (by omega)
  have hmk2 := fun (w : World) => made (P := Try.prog) (t := 164) (e := 53) (z := .pointer none) (sz := 1) (by_ := 8) Try.underlying164 (by kernel_rfl) w n (by omega) (by omega)
  have hmk3 := fun (w : World) => made (P := Try.prog) (t := 165) (e := 56) (z := .pointer none) (sz := 1) (by_ := 8) Try.underlying165 (by kernel_rfl) w n (by omega) (by omega)
  have hmk4 := fun (w : World) => made (P := Try.prog) (t := 166) (e := 66) (z := .pointer none) (sz := 1) (by_ := 8) Try.underlying166 (by kernel_rfl) w n (by omega) (by omega)
  simp only [Nat.mul_one] at hmk2 hmk3 hmk4
  have HC0 := Lib.hid hc
  have HZ := Lib.hid hz
  have HR := Lib.hid hr
  have HP := Lib.hid hp
  have HS := Lib.hid hs
  have HPI := Lib.hid hpi
  have HSI := Lib.hid hsi
  have hn0 : (n == 0) = false := by simp; omega
  have hn0' : ((n : Int) == 0) = false := by simp; omega
  clear hc hz hr hp hs hpi hsi
  have HKD := Lib.hid (show ∀ p, 0 ≤ kd zs p ∧ kd zs p ≤ 4 from fun p => by unfold kd; have := HZ.out p; omega)
  go_enter Try.func17, Try.ntmps17
  go_wp2_with fail
  clear hmk1 hmk2 hmk3 hmk4
  go_loopw [14] (fun i wr => B1 n (kd zs) w.heap.size w i wr) (fun i _ => n - (intOf i).toNat)
  case atStart =>
    obtain ⟨W1, hW1⟩ : ∃ W, W = w.alloc (.cells #[.nilIface, .int .i32 0] 32) := ⟨_, rfl⟩
    have z1 : W1.heap.size = w.heap.size + 1 := by rw [hW1]; simp
    have b1 : Below w.heap.size w W1 := by rw [hW1]; exact (Below.refl _ _).alloc (Nat.le_refl _) _
    have a1 : At W1 w.heap.size 32 #[.nilIface, .int .i32 0] := by rw [hW1]; exact At.new _ _ _
    have z2 : w.heap.size + 1 + 1 = w.heap.size + 2 := rfl
    rw [← hW1]
    clear hW1
    have x1 := At.new W1 32 (madeCells #[.nilIface, .int .i32 0] (n * 2))
    rw [z1] at x1
    refine ⟨0, fun _ => 0, _, _, _, _, Nat.zero_le _, rfl, Lib.hid (((x1.alloc _).alloc _).alloc _), Lib.hid (by have := ((At.new (W1.alloc (.cells (madeCells #[.nilIface, .int .i32 0] (n * 2)) 32)) 53 (madeCells #[.pointer none] n)).alloc (.cells (madeCells #[.pointer none] n) 56)).alloc (.cells (madeCells #[.pointer none] n) 66); simpa [z1] using this), Lib.hid (by have := (At.new ((W1.alloc (.cells (madeCells #[.nilIface, .int .i32 0] (n * 2)) 32)).alloc (.cells (madeCells #[.pointer none] n) 53)) 56 (madeCells #[.pointer none] n)).alloc (.cells (madeCells #[.pointer none] n) 66); simpa [z1] using this), Lib.hid (by have := At.new (((W1.alloc (.cells (madeCells #[.nilIface, .int .i32 0] (n * 2)) 32)).alloc (.cells (madeCells #[.pointer none] n) 53)).alloc (.cells (madeCells #[.pointer none] n) 56)) 66 (madeCells #[.pointer none] n); simpa [z1] using this), Lib.hid ⟨by simp [size_madeCells, Value.cells], by simp [size_madeCells, Value.cells], by simp [size_madeCells, Value.cells], by simp [size_madeCells, Value.cells]⟩, Lib.hid ⟨fun p hp => absurd hp (by omega), fun p q hp => absurd hp (by omega), fun p hp => absurd hp (by omega), fun p hp => absurd hp (by omega), fun p hp => absurd hp (by omega), fun p hp => absurd hp (by omega), fun p hp => absurd hp (by omega), fun p hp => absurd hp (by omega), fun p hp => absurd hp (by omega), fun p hp => absurd hp (by omega)⟩, Lib.hid ((((b1.alloc (by omega) _).alloc (by simp; omega) _).alloc (by simp; omega) _).alloc (by simp; omega) _), Lib.hid ((((a1.alloc _).alloc _).alloc _).alloc _), by simp [z1]⟩
  case round =>
    obtain ⟨j, blk, cs, as_, os, bs, hj, rfl, HA, HAA, HAO, HAB, HSZ, HBU, HBL, HH, hL⟩ := hrel
    by_cases hlt : j < n
    · have lt : decide (j < n) = true := by simpa using hlt
      have cz : wr.cell? ⟨B, off + j, none⟩ = some (.int .u8 (zs.getD j 0)) := kept HBL.out (HC0.out j hlt)
      obtain ⟨z, hzz⟩ : ∃ z, z = zs.getD j 0 := ⟨_, rfl⟩
      obtain ⟨z0, z1⟩ := HZ.out j
      rw [← hzz] at cz z0 z1
      have HZZ := Lib.hid hzz
      clear hzz
      obtain ⟨y0, hy0⟩ : ∃ v, cs[j * 2]? = some v := ⟨_, Array.getElem?_eq_getElem (by have := HSZ.out.1; omega)⟩
      obtain ⟨y1, hy1⟩ : ∃ v, cs[j * 2 + 1]? = some v := ⟨_, Array.getElem?_eq_getElem (by have := HSZ.out.1; omega)⟩
      obtain ⟨ya, hya⟩ : ∃ v, as_[j]? = some v := ⟨_, Array.getElem?_eq_getElem (by have := HSZ.out.2.1; omega)⟩
      obtain ⟨yo, hyo⟩ : ∃ v, os[j]? = some v := ⟨_, Array.getElem?_eq_getElem (by have := HSZ.out.2.2.1; omega)⟩
      obtain ⟨yb, hyb⟩ : ∃ v, bs[j]? = some v := ⟨_, Array.getElem?_eq_getElem (by have := HSZ.out.2.2.2; omega)⟩
      have d0 := (HA.out.cell (j * 2)).trans hy0
      have d1 := (HA.out.cell (j * 2 + 1)).trans hy1
      have da := (HAA.out.cell j).trans hya
      have do_ := (HAO.out.cell j).trans hyo
      have db := (HAB.out.cell j).trans hyb
      have g0 := HA.out.frozen (j * 2)
      have g1 := HA.out.frozen (j * 2 + 1)
      have ga := HAA.out.frozen j
      have go_ := HAO.out.frozen j
      have gb := HAB.out.frozen j
      clear hy0 hy1 hya hyo hyb
      have hw0 : w.heap.size < wr.heap.size := by omega
      have hw1 : w.heap.size + 1 < wr.heap.size := by omega
      have hw2 : w.heap.size + 1 + 1 < wr.heap.size := by omega
      have hw3 : w.heap.size + 1 + 1 + 1 < wr.heap.size := by omega
      have hw4 : w.heap.size + 1 + 1 + 1 + 1 < wr.heap.size := by omega
      have hc5 : z % 5 = 0 ∨ z % 5 = 1 ∨ z % 5 = 2 ∨ z % 5 = 3 ∨ z % 5 = 4 := by omega
      rcases hc5 with hk5 | hk5 | hk5 | hk5 | hk5
      · have HK := Lib.hid (kd_lit HZZ.out hk5)
        go_wp2_with fail
        go_roundw
        case measure => simp [intOf]; omega
        case rel =>
          have h1 := HA.out; have h2 := HAA.out; have h3 := HAO.out; have h4 := HAB.out; have h5 := HBL.out; have h6 := HH.out
          have hws : w.heap.size ≤ wr.heap.size := h5.size
          refine ⟨j + 1, fun q => if q = j then wr.heap.size else blk q, _, _, _, _, by omega, by go_num, Lib.hid ((((h1).set _ _).set _ _).alloc _), Lib.hid ((((h2).far (by simp <;> omega) _).far (by simp <;> omega) _).alloc _), Lib.hid ((((h3).far (by simp <;> omega) _).far (by simp <;> omega) _).alloc _), Lib.hid ((((h4).far (by simp <;> omega) _).far (by simp <;> omega) _).alloc _), Lib.hid (by have := HSZ.out; simpa using this), Lib.hid (HBU.out.next (cs' := (cs.setIfInBounds (j * 2) (Value.iface 47 (.pointer (some ⟨wr.heap.size, 0, none⟩)))).setIfInBounds (j * 2 + 1) (.int .i32 0)) (by repeat (first | with_reducible exact Ex.refl _ _ | (with_reducible refine Ex.alloc ?_ _) | (with_reducible refine Ex.set ?_ (by omega) _ _))) wr.heap.size rfl (by simp [World.setCell]) (by omega) (by rw [Array.getElem?_setIfInBounds_ne (by omega), HK.out]; exact setAt _ _ _ (by have := HSZ.out; omega)) (setAt _ _ _ (by have := HSZ.out; simp; omega)) (fun q e1 e2 => by rw [Array.getElem?_setIfInBounds_ne (by omega), Array.getElem?_setIfInBounds_ne (by omega)]) (fun h => by have := HK.out; omega) (fun q hq => rfl) (fun h => by have := HK.out; omega) (fun q hq => rfl) (fun h => by have := HK.out; omega) (fun q hq => rfl) (fun h => by have := HK.out; omega) (fun h => by have := HK.out; omega) (fun h => by have := HK.out; omega) (fun h => by have := HK.out; omega)), Lib.hid (by repeat (first | with_reducible assumption | (with_reducible refine Below.alloc ?_ (by simp; try omega) _) | (with_reducible refine Below.setCell ?_ (by simp <;> omega) _))), Lib.hid ((((h6).far (by simp <;> omega) _).far (by simp <;> omega) _).alloc _), by simp [World.setCell]; omega⟩
      · have HK := Lib.hid (kd_lit HZZ.out hk5)
        go_wp2_with fail
        go_roundw
        case measure => simp [intOf]; omega
        case rel =>
          have h1 := HA.out; have h2 := HAA.out; have h3 := HAO.out; have h4 := HAB.out; have h5 := HBL.out; have h6 := HH.out
          have hws : w.heap.size ≤ wr.heap.size := h5.size
          have hnew := fun (W : World) (e : W.heap.size = wr.heap.size) => (show At (W.alloc (.cells #[.slice none 0 0, .int .i32 0, .int .i32 0, .bool false, .bool false] 55)) wr.heap.size 55 #[.slice none 0 0, .int .i32 0, .int .i32 0, .bool false, .bool false] from by have := At.new W 55 #[.slice none 0 0, .int .i32 0, .int .i32 0, .bool false, .bool false]; rwa [e] at this)
          refine ⟨j + 1, fun q => if q = j then wr.heap.size else blk q, _, _, _, _, by omega, by go_num, Lib.hid (((((h1).far (by simp <;> omega) _).set _ _).set _ _).alloc _), Lib.hid (((((h2).set _ _).far (by simp <;> omega) _).far (by simp <;> omega) _).alloc _), Lib.hid (((((h3).far (by simp <;> omega) _).far (by simp <;> omega) _).far (by simp <;> omega) _).alloc _), Lib.hid (((((h4).far (by simp <;> omega) _).far (by simp <;> omega) _).far (by simp <;> omega) _).alloc _), Lib.hid (by have := HSZ.out; simpa using this), Lib.hid (HBU.out.next (cs' := (cs.setIfInBounds (j * 2) (Value.iface 53 (.pointer (some ⟨wr.heap.size, 0, none⟩)))).setIfInBounds (j * 2 + 1) (.int .i32 0)) (by repeat (first | with_reducible exact Ex.refl _ _ | (with_reducible refine Ex.alloc ?_ _) | (with_reducible refine Ex.set ?_ (by omega) _ _))) wr.heap.size rfl (by simp [World.setCell]) (by omega) (by rw [Array.getElem?_setIfInBounds_ne (by omega), HK.out]; exact setAt _ _ _ (by have := HSZ.out; omega)) (setAt _ _ _ (by have := HSZ.out; simp; omega)) (fun q e1 e2 => by rw [Array.getElem?_setIfInBounds_ne (by omega), Array.getElem?_setIfInBounds_ne (by omega)]) (fun _ => setAt _ _ _ (by have := HSZ.out; omega)) (fun q hq => by rw [Array.getElem?_setIfInBounds_ne (by omega)]) (fun h => by have := HK.out; omega) (fun q hq => rfl) (fun h => by have := HK.out; omega) (fun q hq => rfl) (fun _ => hnew _ (by simp [World.setCell])) (fun h => by have := HK.out; omega) (fun h => by have := HK.out; omega) (fun h => by have := HK.out; omega)), Lib.hid (by repeat (first | with_reducible assumption | (with_reducible refine Below.alloc ?_ (by simp; try omega) _) | (with_reducible refine Below.setCell ?_ (by simp <;> omega) _))), Lib.hid (((((h6).far (by simp <;> omega) _).far (by simp <;> omega) _).far (by simp <;> omega) _).alloc _), by simp [World.setCell]; omega⟩
      · have HK := Lib.hid (kd_lit HZZ.out hk5)
        go_wp2_with fail
        go_roundw
        case measure => simp [intOf]; omega
        case rel =>
          have h1 := HA.out; have h2 := HAA.out; have h3 := HAO.out; have h4 := HAB.out; have h5 := HBL.out; have h6 := HH.out
          have hws : w.heap.size ≤ wr.heap.size := h5.size
          have hnew := fun (W : World) (e : W.heap.size = wr.heap.size) => (show At (W.alloc (.cells #[.slice none 0 0, .int .i32 0, .int .i32 0, .bool false, .bool false] 65)) wr.heap.size 65 #[.slice none 0 0, .int .i32 0, .int .i32 0, .bool false, .bool false] from by have := At.new W 65 #[.slice none 0 0, .int .i32 0, .int .i32 0, .bool false, .bool false]; rwa [e] at this)
          refine ⟨j + 1, fun q => if q = j then wr.heap.size else blk q, _, _, _, _, by omega, by go_num, Lib.hid (((((h1).far (by simp <;> omega) _).set _ _).set _ _).alloc _), Lib.hid (((((h2).far (by simp <;> omega) _).far (by simp <;> omega) _).far (by simp <;> omega) _).alloc _), Lib.hid (((((h3).set _ _).far (by simp <;> omega) _).far (by simp <;> omega) _).alloc _), Lib.hid (((((h4).far (by simp <;> omega) _).far (by simp <;> omega) _).far (by simp <;> omega) _).alloc _), Lib.hid (by have := HSZ.out; simpa using this), Lib.hid (HBU.out.next (cs' := (cs.setIfInBounds (j * 2) (Value.iface 56 (.pointer (some ⟨wr.heap.size, 0, none⟩)))).setIfInBounds (j * 2 + 1) (.int .i32 0)) (by repeat (first | with_reducible exact Ex.refl _ _ | (with_reducible refine Ex.alloc ?_ _) | (with_reducible refine Ex.set ?_ (by omega) _ _))) wr.heap.size rfl (by simp [World.setCell]) (by omega) (by rw [Array.getElem?_setIfInBounds_ne (by omega), HK.out]; exact setAt _ _ _ (by have := HSZ.out; omega)) (setAt _ _ _ (by have := HSZ.out; simp; omega)) (fun q e1 e2 => by rw [Array.getElem?_setIfInBounds_ne (by omega), Array.getElem?_setIfInBounds_ne (by omega)]) (fun h => by have := HK.out; omega) (fun q hq => rfl) (fun _ => setAt _ _ _ (by have := HSZ.out; omega)) (fun q hq => by rw [Array.getElem?_setIfInBounds_ne (by omega)]) (fun h => by have := HK.out; omega) (fun q hq => rfl) (fun h => by have := HK.out; omega) (fun _ => hnew _ (by simp [World.setCell])) (fun h => by have := HK.out; omega) (fun h => by have := HK.out; omega)), Lib.hid (by repeat (first | with_reducible assumption | (with_reducible refine Below.alloc ?_ (by simp; try omega) _) | (with_reducible refine Below.setCell ?_ (by simp <;> omega) _))), Lib.hid (((((h6).far (by simp <;> omega) _).far (by simp <;> omega) _).far (by simp <;> omega) _).alloc _), by simp [World.setCell]; omega⟩
      · have HK := Lib.hid (kd_lit HZZ.out hk5)
        go_wp2_with fail
        go_roundw
        case measure => simp [intOf]; omega
        case rel =>
          have h1 := HA.out; have h2 := HAA.out; have h3 := HAO.out; have h4 := HAB.out; have h5 := HBL.out; have h6 := HH.out
          have hws : w.heap.size ≤ wr.heap.size := h5.size
          have hnew := fun (W : World) (e : W.heap.size = wr.heap.size) => (show At (W.alloc (.cells #[.nilIface, .int .i32 0, .nilIface, .int .i32 0, .int .u8 37, .bool false] 69)) wr.heap.size 69 #[.nilIface, .int .i32 0, .nilIface, .int .i32 0, .int .u8 37, .bool false] from by have := At.new W 69 #[.nilIface, .int .i32 0, .nilIface, .int .i32 0, .int .u8 37, .bool false]; rwa [e] at this)
          refine ⟨j + 1, fun q => if q = j then wr.heap.size else blk q, _, _, _, _, by omega, by go_num, Lib.hid (((((h1).far (by simp <;> omega) _).set _ _).set _ _).alloc _), Lib.hid (((((h2).far (by simp <;> omega) _).far (by simp <;> omega) _).far (by simp <;> omega) _).alloc _), Lib.hid (((((h3).far (by simp <;> omega) _).far (by simp <;> omega) _).far (by simp <;> omega) _).alloc _), Lib.hid (((((h4).set _ _).far (by simp <;> omega) _).far (by simp <;> omega) _).alloc _), Lib.hid (by have := HSZ.out; simpa using this), Lib.hid (HBU.out.next (cs' := (cs.setIfInBounds (j * 2) (Value.iface 66 (.pointer (some ⟨wr.heap.size, 0, none⟩)))).setIfInBounds (j * 2 + 1) (.int .i32 0)) (by repeat (first | with_reducible exact Ex.refl _ _ | (with_reducible refine Ex.alloc ?_ _) | (with_reducible refine Ex.set ?_ (by omega) _ _))) wr.heap.size rfl (by simp [World.setCell]) (by omega) (by rw [Array.getElem?_setIfInBounds_ne (by omega), HK.out]; exact setAt _ _ _ (by have := HSZ.out; omega)) (setAt _ _ _ (by have := HSZ.out; simp; omega)) (fun q e1 e2 => by rw [Array.getElem?_setIfInBounds_ne (by omega), Array.getElem?_setIfInBounds_ne (by omega)]) (fun h => by have := HK.out; omega) (fun q hq => rfl) (fun h => by have := HK.out; omega) (fun q hq => rfl) (fun _ => setAt _ _ _ (by have := HSZ.out; omega)) (fun q hq => by rw [Array.getElem?_setIfInBounds_ne (by omega)]) (fun h => by have := HK.out; omega) (fun h => by have := HK.out; omega) (fun _ => hnew _ (by simp [World.setCell])) (fun h => by have := HK.out; omega)), Lib.hid (by repeat (first | with_reducible assumption | (with_reducible refine Below.alloc ?_ (by simp; try omega) _) | (with_reducible refine Below.setCell ?_ (by simp <;> omega) _))), Lib.hid (((((h6).far (by simp <;> omega) _).far (by simp <;> omega) _).far (by simp <;> omega) _).alloc _), by simp [World.setCell]; omega⟩
      · have HK := Lib.hid (kd_lit HZZ.out hk5)
        go_wp2_with fail
        go_roundw
        case measure => simp [intOf]; omega
        case rel =>
          have h1 := HA.out; have h2 := HAA.out; have h3 := HAO.out; have h4 := HAB.out; have h5 := HBL.out; have h6 := HH.out
          have hws : w.heap.size ≤ wr.heap.size := h5.size
          have hnew := fun (W : World) (e : W.heap.size = wr.heap.size) => (show At (W.alloc (.cells #[.nilIface, .int .i32 0, .nilIface, .int .i32 0, .int .u8 11, .bool false] 69)) wr.heap.size 69 #[.nilIface, .int .i32 0, .nilIface, .int .i32 0, .int .u8 11, .bool false] from by have := At.new W 69 #[.nilIface, .int .i32 0, .nilIface, .int .i32 0, .int .u8 11, .bool false]; rwa [e] at this)
          refine ⟨j + 1, fun q => if q = j then wr.heap.size else blk q, _, _, _, _, by omega, by go_num, Lib.hid (((((h1).far (by simp <;> omega) _).set _ _).set _ _).alloc _), Lib.hid (((((h2).far (by simp <;> omega) _).far (by simp <;> omega) _).far (by simp <;> omega) _).alloc _), Lib.hid (((((h3).far (by simp <;> omega) _).far (by simp <;> omega) _).far (by simp <;> omega) _).alloc _), Lib.hid (((((h4).set _ _).far (by simp <;> omega) _).far (by simp <;> omega) _).alloc _), Lib.hid (by have := HSZ.out; simpa using this), Lib.hid (HBU.out.next (cs' := (cs.setIfInBounds (j * 2) (Value.iface 66 (.pointer (some ⟨wr.heap.size, 0, none⟩)))).setIfInBounds (j * 2 + 1) (.int .i32 0)) (by repeat (first | with_reducible exact Ex.refl _ _ | (with_reducible refine Ex.alloc ?_ _) | (with_reducible refine Ex.set ?_ (by omega) _ _))) wr.heap.size rfl (by simp [World.setCell]) (by omega) (by rw [Array.getElem?_setIfInBounds_ne (by omega), HK.out]; exact setAt _ _ _ (by have := HSZ.out; omega)) (setAt _ _ _ (by have := HSZ.out; simp; omega)) (fun q e1 e2 => by rw [Array.getElem?_setIfInBounds_ne (by omega), Array.getElem?_setIfInBounds_ne (by omega)]) (fun h => by have := HK.out; omega) (fun q hq => rfl) (fun h => by have := HK.out; omega) (fun q hq => rfl) (fun _ => setAt _ _ _ (by have := HSZ.out; omega)) (fun q hq => by rw [Array.getElem?_setIfInBounds_ne (by omega)]) (fun h => by have := HK.out; omega) (fun h => by have := HK.out; omega) (fun h => by have := HK.out; omega) (fun _ => hnew _ (by simp [World.setCell]))), Lib.hid (by repeat (first | with_reducible assumption | (with_reducible refine Below.alloc ?_ (by simp; try omega) _) | (with_reducible refine Below.setCell ?_ (by simp <;> omega) _))), Lib.hid (((((h6).far (by simp <;> omega) _).far (by simp <;> omega) _).far (by simp <;> omega) _).alloc _), by simp [World.setCell]; omega⟩
    · obtain rfl : j = n := by omega
      have lt : decide (j < j) = false := by simp
      have HF := Lib.hid (HBU.out.forest HKD.out)
      have HE := Lib.hid HBU.out.ex
      have HPA := Lib.hid HBU.out.pa
      have HPO := Lib.hid HBU.out.po
      have HPB := Lib.hid HBU.out.pb
      clear HBU
      go_wp2_with fail
      obtain ⟨W0, hW0⟩ : ∃ W, W = wr := ⟨_, rfl⟩
      subst hW0
      go_loopw [19] (fun i w2 => B2 j (kd zs) w.heap.size blk cs as_ os bs w i w2) (fun i _ => j - (intOf i).toNat)
      case atStart => exact ⟨1, fun _ => none, by omega, by omega, rfl, HA, HAA, HAO, HAB, HF, HBL, HH, hL⟩
      case round =>
        clear HA HAA HAO HAB HF HBL HH hL
        obtain ⟨i, Rw, hi1, hi, rfl, HA, HAA, HAO, HAB, HF, HBL, HH, hL⟩ := hrel
        by_cases hlt : i < j
        · have lt : decide (i < j) = true := by simpa using hlt
          obtain ⟨y, hy, hpar⟩ := HPI.out.2 i hlt
          obtain ⟨ys, hys, _⟩ := HSI.out.2 i hlt
          have cp : wr.cell? ⟨Pb, i, none⟩ = some (.int .i64 y) := kept HBL.out ((HP.out.cell i).trans hy)
          have cs_ : wr.cell? ⟨Sb, i, none⟩ = some (.int .i64 ys) := kept HBL.out ((HS.out.cell i).trans hys)
          clear hy hys
          rcases hpar with hneg | ⟨q, rfl, hqi, hkq⟩
          · have e1 : decide (y < 0) = true := by simpa using hneg
            go_wp2_with fail
            go_roundw
            case measure => simp [intOf]; omega
            case rel => exact ⟨i + 1, Rw, by omega, by omega, by go_num, HA, HAA, HAO, HAB, Lib.hid (HF.out.up (by omega)), HBL, HH, hL⟩
          · have hqj : q < j := by omega
            have czq : wr.cell? ⟨B, off + q, none⟩ = some (.int .u8 (zs.getD q 0)) := kept HBL.out (HC0.out q hqj)
            obtain ⟨z, hzz⟩ : ∃ z, z = zs.getD q 0 := ⟨_, rfl⟩
            obtain ⟨z0, z1⟩ := HZ.out q
            rw [← hzz] at czq z0 z1
            have HZZ := Lib.hid hzz
            clear hzz
            have hq0 : decide ((q : Int) < 0) = false := by simp
            obtain ⟨bi, T, hbi⟩ : ∃ bi T, dat (kd zs i) (blk i) = .iface T (.pointer (some ⟨bi, 0, none⟩)) := ⟨_, _, rfl⟩
            have HDT := Lib.hid hbi.symm
            have e0 := (HA.out.cell (i * 2)).trans (HE.out i hlt).1
            have e1 := (HA.out.cell (i * 2 + 1)).trans (HE.out i hlt).2
            rw [hbi] at e0
            clear hbi
            have hbq := HF.out.hb q hqj
            have hw1 : w.heap.size + 1 < wr.heap.size := by omega
            have hw2 : w.heap.size + 1 + 1 < wr.heap.size := by omega
            have hw3 : w.heap.size + 1 + 1 + 1 < wr.heap.size := by omega
            have hw4 : w.heap.size + 1 + 1 + 1 + 1 < wr.heap.size := by omega
            have hbq1 := hbq.2
            have hbq2 : ¬ blk q = wr.heap.size := by omega
            have hkq' : ¬ z % 5 = 0 := by rw [HZZ.out]; exact hkq
            have hnode := HF.out.node q hqj
            have HSW := Lib.hid (Nat.le_refl wr.heap.size)
            have HWB := Lib.hid (show ∀ b, b < wr.heap.size → wr.heap[b]? = wr.heap[b]? from fun _ _ => rfl)
            have HWL := Lib.hid HBL.out
            have hc5 : z % 5 = 1 ∨ z % 5 = 2 ∨ z % 5 = 3 ∨ z % 5 = 4 := by omega
            clear hkq hkq'
            rcases hc5 with hk5 | hk5 | hk5 | hk5
            · have HK := Lib.hid (kd_lit HZZ.out hk5)
              obtain ⟨h0, a, m, c, xs, h1, h2, h3, h4, h5, h6⟩ : kd zs q = 1 ∧ NodeA (w.heap.size + 5) j i (kd zs) blk wr q (Rw q) := by
                have := HK.out
                rcases hnode with h | h | h | h
                · omega
                · exact h
                · omega
                · omega
              have HRO := Lib.hid (show ∀ r, (Value.slice a m c).ownBlock = some r → w.heap.size + 5 ≤ r ∧ r < wr.heap.size from fun r hr => by have h := HF.out.hr q r (h4 ▸ hr); exact ⟨h.1, h.2.1⟩)
              have HN1 := Lib.hid (show (Value.slice a m c).ownBlock ≠ some (w.heap.size + 1 + 1) from fun e => by have := HRO.out _ e; omega)
              have HN0 := Lib.hid (show (Value.slice a m c).ownBlock ≠ some (w.heap.size + 1) from fun e => by have := HRO.out _ e; omega)
              have HN2 := Lib.hid (show (Value.slice a m c).ownBlock ≠ some (blk q) from fun e => (HF.out.hr q _ (h4 ▸ e)).2.2 q hqj rfl)
              have HO := Lib.hid h3
              have HX := Lib.hid (And.intro h3.1 (And.intro h4 (And.intro h5 h6)))
              have h5' := h5
              have ca : wr.cell? ⟨w.heap.size + 1 + 1, q, none⟩ = some (.pointer (some ⟨blk q, 0, none⟩)) := (HAA.out.cell q).trans (HPA.out q hqj HK.out)
              clear h3 h4 h5 h6 hnode h0
              go_wp2_with fail
              have PK := Lib.hid (And.intro HF (And.intro HE (And.intro HPA (And.intro HPO (And.intro HPB (And.intro HBL (And.intro HC0 (And.intro HZ (And.intro HR (And.intro HP (And.intro HS (And.intro HPI (And.intro HSI (And.intro HKD (And.intro HZZ (And.intro HK (And.intro HX (And.intro HDT (And.intro HRO (And.intro HA (And.intro HAA (And.intro HAO (And.intro HAB (And.intro HH (And.intro HSZ (And.intro HSW (And.intro HWB HWL)))))))))))))))))))))))))))
              clear HF HE HPA HPO HPB HBL HC0 HZ HR HP HS HPI HSI HKD HZZ HK HX HDT HRO HA HAA HAO HAB HH HSZ HSW HWB HWL cp cs_ czq z0 z1 hk5 hq0 J1 J10 J11 J12
              obtain ⟨gg, cap, w1, hrun, hown1, hgrow, hat, hlt2⟩ := appRun_lies (P := Try.prog) ((wr.alloc (.cells #[.iface T (.pointer (some ⟨bi, 0, none⟩)), .int .i32 0] 32)).drew) 25 25 (w.heap.size + 5) 32 i0 _ 2 24 Try.underlying25 J0.out J00.out J01.out J02.out rfl (by omega) (.slice a m c) m xs ((HO.out.alloc _).drew) ⟨wr.heap.size, 0, none⟩ 1 1 [.iface T (.pointer (some ⟨bi, 0, none⟩)), .int .i32 0] (by rfl) (World.news_of_block (cs := #[.iface T (.pointer (some ⟨bi, 0, none⟩)), .int .i32 0]) (t := 32) (fr := (0, 0)) (heap_alloc_new wr _)) (by simp [Value.oneCell']) (by omega) (by unfold maxLen; omega) (by omega) (by simp; omega) (wr.heap.size + 1) (by simp)
              have s1 : w1.cell? ⟨w.heap.size + 1 + 1, q, none⟩ = some (.pointer (some ⟨blk q, 0, none⟩)) := (by rw [hgrow.cell_far _ (by simp; try omega) (Ne.symm HN1.out)]; simp [go_sem, *])
              have s2 : w1.cell? ⟨blk q, 0, none⟩ = some (.slice a m c) := (by rw [hgrow.cell_far _ (by simp; try omega) (Ne.symm HN2.out)]; simp [go_sem, *])
              have s3 : w1.frozen? ⟨blk q, 0, none⟩ = false := (by rw [hgrow.frozen_far _ (by simp; try omega) (Ne.symm HN2.out)]; simp [go_sem, *])
              have s4 : w1.cell? ⟨w.heap.size + 1, i * 2, none⟩ = some (.iface T (.pointer (some ⟨bi, 0, none⟩))) := (by rw [hgrow.cell_far _ (by simp; try omega) (Ne.symm HN0.out)]; simp [go_sem, *])
              have s5 : w1.cell? ⟨w.heap.size + 1, i * 2 + 1, none⟩ = some (.int .i32 0) := (by rw [hgrow.cell_far _ (by simp; try omega) (Ne.symm HN0.out)]; simp [go_sem, *])
              have HOWN := Lib.hid hown1
              have HGR := Lib.hid hgrow
              have HAT := Lib.hid hat
              clear hown1 hgrow hat
              go_wp2_with fail
              go_region
              all_goals
                have ⟨HF, HE, HPA, HPO, HPB, HBL, HC0, HZ, HR, HP, HS, HPI, HSI, HKD, HZZ, HK, HX, HDT, HRO, HA, HAA, HAO, HAB, HH, HSZ, HSW, HWB, HWL⟩ := PK.out
                clear PK
                have KF := Lib.hid (arrStep HF.out q hqi hlt HK.out (by omega) HDT.out h1 h2 HX.out.1 HX.out.2.1 h5' HX.out.2.2.2 HOWN.out HGR.out HAT.out hlt2)
                have hgs := HGR.out.size
                have KB := Lib.hid (show ∀ b, b < w.heap.size + 5 → (w1.setCell ⟨blk q, 0, none⟩ (.slice (some ⟨gg, 0, none⟩) (m + 1) cap)).heap[b]? = wr.heap[b]? from fun b hb => by
                  rw [Below.heap_setCell _ _ _ b (by simp; omega), HGR.out.block b (by simp; omega) (fun e => by have := HRO.out b e.symm; omega)]
                  exact Below.heap_alloc wr _ b (by omega))
                have KL := Lib.hid (show Below w.heap.size w (w1.setCell ⟨blk q, 0, none⟩ (.slice (some ⟨gg, 0, none⟩) (m + 1) cap)) from (Below.grown (Below.drew (Below.alloc (HWL.out) (by have := Nat.le_refl 0; omega) _)) HGR.out (by have := Nat.le_refl 0; simp; omega) (fun k hk => by have := HRO.out k hk; omega)).setCell (by simp; omega) _)
                have KS := Lib.hid (show w.heap.size + 5 ≤ (w1.setCell ⟨blk q, 0, none⟩ (.slice (some ⟨gg, 0, none⟩) (m + 1) cap)).heap.size by have := Nat.le_refl 0; simp at hgs; simp [World.setCell]; omega)
                clear hrun hgs s1 s2 s3 h1 h2 ca e0 e1
                go_wp2_with fail
                go_roundw
                case measure => simp [intOf]; omega
                case rel => exact ⟨i + 1, _, by omega, by omega, by go_num, Lib.hid ((KB.out _ (by omega)).trans HA.out), Lib.hid ((KB.out _ (by omega)).trans HAA.out), Lib.hid ((KB.out _ (by omega)).trans HAO.out), Lib.hid ((KB.out _ (by omega)).trans HAB.out), KF, KL, Lib.hid ((KB.out _ (by omega)).trans HH.out), KS.out⟩
            · have HK := Lib.hid (kd_lit HZZ.out hk5)
              obtain ⟨h0, a, m, c, xs, h1, h2, h3, h4, h5, h6⟩ : kd zs q = 2 ∧ NodeO (w.heap.size + 5) j i (kd zs) blk wr q (Rw q) := by
                have := HK.out
                rcases hnode with h | h | h | h
                · omega
                · omega
                · exact h
                · omega
              have HRO := Lib.hid (show ∀ r, (Value.slice a m c).ownBlock = some r → w.heap.size + 5 ≤ r ∧ r < wr.heap.size from fun r hr => by have h := HF.out.hr q r (h4 ▸ hr); exact ⟨h.1, h.2.1⟩)
              have HN1 := Lib.hid (show (Value.slice a m c).ownBlock ≠ some (w.heap.size + 1 + 1 + 1) from fun e => by have := HRO.out _ e; omega)
              have HN0 := Lib.hid (show (Value.slice a m c).ownBlock ≠ some wr.heap.size from fun e => by have := HRO.out _ e; omega)
              have HN2 := Lib.hid (show (Value.slice a m c).ownBlock ≠ some (blk q) from fun e => (HF.out.hr q _ (h4 ▸ e)).2.2 q hqj rfl)
              have HO := Lib.hid h3
              have HX := Lib.hid (And.intro h3.1 (And.intro h4 (And.intro h5 h6)))
              have h5' := h5
              have ca : wr.cell? ⟨w.heap.size + 1 + 1 + 1, q, none⟩ = some (.pointer (some ⟨blk q, 0, none⟩)) := (HAO.out.cell q).trans (HPO.out q hqj HK.out)
              clear h3 h4 h5 h6 hnode h0
              have HFL := Lib.hid (flag a3 n3 cap3 f i (wr.alloc (.cells #[.pointer none, .nilIface, .int .i32 0, .iface T (.pointer (some ⟨bi, 0, none⟩)), .int .i32 0, .nilIface, .int .i32 0, .slice none 0 0, .int .i32 0, .int .i32 0, .int .u8 0, .int .u8 0] 62)) (fun hp => by obtain ⟨b, o, e, hc⟩ := HR.out hp; exact ⟨b, o, e, fun i hi => kAlloc (kept HBL.out (hc i hi))⟩) (by omega) (by omega))
              go_wp2_with fail
              refine HFL.out.mono ?_
              rintro e w' ⟨fb, rfl, rfl⟩
              clear HFL
              cases fb
              · go_wp2_with fail
                obtain ⟨W, hW⟩ : ∃ W, W = wr.alloc (.cells #[.pointer none, .nilIface, .int .i32 0, .iface T (.pointer (some ⟨bi, 0, none⟩)), .int .i32 0, .nilIface, .int .i32 0, .slice none 0 0, .int .i32 0, .int .i32 0, .int .u8 0, .int .u8 0] 62) := ⟨_, rfl⟩
                have zW : W.heap.size = wr.heap.size + 1 := by rw [hW]; simp
                have HSW := Lib.hid (show wr.heap.size ≤ W.heap.size by omega)
                have HWB := Lib.hid (show ∀ b, b < wr.heap.size → W.heap[b]? = wr.heap[b]? from fun b hb => by rw [hW]; exact Below.heap_alloc wr _ b hb)
                have HWL := Lib.hid (show Below w.heap.size w W by rw [hW]; exact HBL.out.alloc HBL.out.size _)
                have HFW := Lib.hid (show Forest (w.heap.size + 5) j i (kd zs) blk Rw W by rw [hW]; exact HF.out.alloc _)
                have HOW := Lib.hid (show W.ownsRow (w.heap.size + 5) 62 12 (.slice a m c) m xs by rw [hW]; exact HO.out.alloc _)
                have hat_ : At W wr.heap.size 62 #[.pointer none, .nilIface, .int .i32 0, .iface T (.pointer (some ⟨bi, 0, none⟩)), .int .i32 0, .nilIface, .int .i32 0, .slice none 0 0, .int .i32 0, .int .i32 0, .int .u8 0, .int .u8 0] := by rw [hW]; exact At.new _ _ _
                have ca2 : W.cell? ⟨w.heap.size + 1 + 1 + 1, q, none⟩ = some (.pointer (some ⟨blk q, 0, none⟩)) := by rw [hW]; exact kAlloc ca
                have r1 : W.cell? ⟨blk q, 0, none⟩ = some (.slice a m c) := by rw [hW]; exact kAlloc h1
                have r2 : W.frozen? ⟨blk q, 0, none⟩ = false := (World.frozen?_of_block (a := ⟨blk q, 0, none⟩) (HWB.out _ (by omega))).trans h2
                have v0 : W.cell? ⟨wr.heap.size, 0, none⟩ = some (.pointer none) := (hat_.cell 0).trans rfl
                have v1 : W.cell? ⟨wr.heap.size, 1, none⟩ = some (.nilIface) := (hat_.cell 1).trans rfl
                have v2 : W.cell? ⟨wr.heap.size, 2, none⟩ = some (.int .i32 0) := (hat_.cell 2).trans rfl
                have v3 : W.cell? ⟨wr.heap.size, 3, none⟩ = some (.iface T (.pointer (some ⟨bi, 0, none⟩))) := (hat_.cell 3).trans rfl
                have v4 : W.cell? ⟨wr.heap.size, 4, none⟩ = some (.int .i32 0) := (hat_.cell 4).trans rfl
                have v5 : W.cell? ⟨wr.heap.size, 5, none⟩ = some (.nilIface) := (hat_.cell 5).trans rfl
                have v6 : W.cell? ⟨wr.heap.size, 6, none⟩ = some (.int .i32 0) := (hat_.cell 6).trans rfl
                have v7 : W.cell? ⟨wr.heap.size, 7, none⟩ = some (.slice none 0 0) := (hat_.cell 7).trans rfl
                have v8 : W.cell? ⟨wr.heap.size, 8, none⟩ = some (.int .i32 0) := (hat_.cell 8).trans rfl
                have v9 : W.cell? ⟨wr.heap.size, 9, none⟩ = some (.int .i32 0) := (hat_.cell 9).trans rfl
                have v10 : W.cell? ⟨wr.heap.size, 10, none⟩ = some (.int .u8 0) := (hat_.cell 10).trans rfl
                have v11 : W.cell? ⟨wr.heap.size, 11, none⟩ = some (.int .u8 0) := (hat_.cell 11).trans rfl
                clear hat_
                rw [← hW]
                clear hW ca h1 h2 e0 e1
                have lW0 : wr.heap.size < W.heap.size := by omega
                have lW1 : w.heap.size + 1 + 1 + 1 < W.heap.size := by omega
                have lW2 : blk q < W.heap.size := by omega
                clear zW
                obtain ⟨gg, cap, w1, hrun, hown1, hgrow, hat, hlt2⟩ := appRun_lies (P := Try.prog) ((W.alloc (.cells #[.pointer none, .nilIface, .int .i32 0, .iface T (.pointer (some ⟨bi, 0, none⟩)), .int .i32 0, .nilIface, .int .i32 0, .slice none 0 0, .int .i32 0, .int .i32 0, .int .u8 0, .int .u8 0] 62)).drew) 63 63 (w.heap.size + 5) 62 i1 _ 12 120 Try.underlying63 J1.out J10.out J11.out J12.out rfl (by omega) (.slice a m c) m xs ((HOW.out.alloc _).drew) ⟨W.heap.size, 0, none⟩ 1 1 [.pointer none, .nilIface, .int .i32 0, .iface T (.pointer (some ⟨bi, 0, none⟩)), .int .i32 0, .nilIface, .int .i32 0, .slice none 0 0, .int .i32 0, .int .i32 0, .int .u8 0, .int .u8 0] (by rfl) (World.news_of_block (cs := #[.pointer none, .nilIface, .int .i32 0, .iface T (.pointer (some ⟨bi, 0, none⟩)), .int .i32 0, .nilIface, .int .i32 0, .slice none 0 0, .int .i32 0, .int .i32 0, .int .u8 0, .int .u8 0]) (t := 62) (fr := (0, 0)) (heap_alloc_new W _)) (by simp [Value.oneCell']) (by omega) (by unfold maxLen; omega) (by omega) (by simp; omega) (W.heap.size + 1) (by simp)
                have s1 : w1.cell? ⟨w.heap.size + 1 + 1 + 1, q, none⟩ = some (.pointer (some ⟨blk q, 0, none⟩)) := (by rw [hgrow.cell_far _ (by simp; try omega) (Ne.symm HN1.out)]; simp [go_sem, *])
                have s2 : w1.cell? ⟨blk q, 0, none⟩ = some (.slice a m c) := (by rw [hgrow.cell_far _ (by simp; try omega) (Ne.symm HN2.out)]; simp [go_sem, *])
                have s3 : w1.frozen? ⟨blk q, 0, none⟩ = false := (by rw [hgrow.frozen_far _ (by simp; try omega) (Ne.symm HN2.out)]; simp [go_sem, *])
                have t0 : w1.cell? ⟨wr.heap.size, 0, none⟩ = some (.pointer none) := (by rw [hgrow.cell_far _ (by simp; try omega) (Ne.symm HN0.out)]; simp [go_sem, *])
                have t1 : w1.cell? ⟨wr.heap.size, 1, none⟩ = some (.nilIface) := (by rw [hgrow.cell_far _ (by simp; try omega) (Ne.symm HN0.out)]; simp [go_sem, *])
                have t2 : w1.cell? ⟨wr.heap.size, 2, none⟩ = some (.int .i32 0) := (by rw [hgrow.cell_far _ (by simp; try omega) (Ne.symm HN0.out)]; simp [go_sem, *])
                have t3 : w1.cell? ⟨wr.heap.size, 3, none⟩ = some (.iface T (.pointer (some ⟨bi, 0, none⟩))) := (by rw [hgrow.cell_far _ (by simp; try omega) (Ne.symm HN0.out)]; simp [go_sem, *])
                have t4 : w1.cell? ⟨wr.heap.size, 4, none⟩ = some (.int .i32 0) := (by rw [hgrow.cell_far _ (by simp; try omega) (Ne.symm HN0.out)]; simp [go_sem, *])
                have t5 : w1.cell? ⟨wr.heap.size, 5, none⟩ = some (.nilIface) := (by rw [hgrow.cell_far _ (by simp; try omega) (Ne.symm HN0.out)]; simp [go_sem, *])
                have t6 : w1.cell? ⟨wr.heap.size, 6, none⟩ = some (.int .i32 0) := (by rw [hgrow.cell_far _ (by simp; try omega) (Ne.symm HN0.out)]; simp [go_sem, *])
                have t7 : w1.cell? ⟨wr.heap.size, 7, none⟩ = some (.slice none 0 0) := (by rw [hgrow.cell_far _ (by simp; try omega) (Ne.symm HN0.out)]; simp [go_sem, *])
                have t8 : w1.cell? ⟨wr.heap.size, 8, none⟩ = some (.int .i32 0) := (by rw [hgrow.cell_far _ (by simp; try omega) (Ne.symm HN0.out)]; simp [go_sem, *])
                have t9 : w1.cell? ⟨wr.heap.size, 9, none⟩ = some (.int .i32 0) := (by rw [hgrow.cell_far _ (by simp; try omega) (Ne.symm HN0.out)]; simp [go_sem, *])
                have t10 : w1.cell? ⟨wr.heap.size, 10, none⟩ = some (.int .u8 0) := (by rw [hgrow.cell_far _ (by simp; try omega) (Ne.symm HN0.out)]; simp [go_sem, *])
                have t11 : w1.cell? ⟨wr.heap.size, 11, none⟩ = some (.int .u8 0) := (by rw [hgrow.cell_far _ (by simp; try omega) (Ne.symm HN0.out)]; simp [go_sem, *])
                have HOWN := Lib.hid hown1
                have HGR := Lib.hid hgrow
                have HAT := Lib.hid hat
                clear hown1 hgrow hat
                go_wp2_with fail
                go_region
                all_goals
                  have KF := Lib.hid (objStep (s := 0) HFW.out q hqi hlt HK.out (by have := HSW.out; omega) HDT.out r1 r2 HX.out.1 HX.out.2.1 h5' HX.out.2.2.2 HOWN.out HGR.out HAT.out hlt2)
                  have hgs := HGR.out.size
                  have KB := Lib.hid (show ∀ b, b < w.heap.size + 5 → (w1.setCell ⟨blk q, 0, none⟩ (.slice (some ⟨gg, 0, none⟩) (m + 1) cap)).heap[b]? = wr.heap[b]? from fun b hb => by
                    rw [Below.heap_setCell _ _ _ b (by simp; omega), HGR.out.block b (by simp; omega) (fun e => by have := HRO.out b e.symm; omega)]
                    exact (Below.heap_alloc W _ b (by have := HSW.out; omega)).trans (HWB.out b (by omega)))
                  have KL := Lib.hid (show Below w.heap.size w (w1.setCell ⟨blk q, 0, none⟩ (.slice (some ⟨gg, 0, none⟩) (m + 1) cap)) from (Below.grown (Below.drew (Below.alloc (HWL.out) (by have := HSW.out; omega) _)) HGR.out (by have := HSW.out; simp; omega) (fun k hk => by have := HRO.out k hk; omega)).setCell (by simp; omega) _)
                  have KS := Lib.hid (show w.heap.size + 5 ≤ (w1.setCell ⟨blk q, 0, none⟩ (.slice (some ⟨gg, 0, none⟩) (m + 1) cap)).heap.size by have := HSW.out; simp at hgs; simp [World.setCell]; omega)
                  clear hrun hgs s1 s2 s3 r1 r2 ca2 v0 v1 v2 v3 v4 v5 v6 v7 v8 v9 v10 v11
                  go_wp2_with fail
                  go_roundw
                  case measure => simp [intOf]; omega
                  case rel => exact ⟨i + 1, _, by omega, by omega, by go_num, Lib.hid ((KB.out _ (by omega)).trans HA.out), Lib.hid ((KB.out _ (by omega)).trans HAA.out), Lib.hid ((KB.out _ (by omega)).trans HAO.out), Lib.hid ((KB.out _ (by omega)).trans HAB.out), KF, KL, Lib.hid ((KB.out _ (by omega)).trans HH.out), KS.out⟩
              · go_wp2_with fail
                obtain ⟨W, hW⟩ : ∃ W, W = wr.alloc (.cells #[.pointer none, .nilIface, .int .i32 0, .iface T (.pointer (some ⟨bi, 0, none⟩)), .int .i32 0, .nilIface, .int .i32 0, .slice none 0 0, .int .i32 0, .int .i32 0, .int .u8 5, .int .u8 0] 62) := ⟨_, rfl⟩
                have zW : W.heap.size = wr.heap.size + 1 := by rw [hW]; simp
                have HSW := Lib.hid (show wr.heap.size ≤ W.heap.size by omega)
                have HWB := Lib.hid (show ∀ b, b < wr.heap.size → W.heap[b]? = wr.heap[b]? from fun b hb => by rw [hW]; exact Below.heap_alloc wr _ b hb)
                have HWL := Lib.hid (show Below w.heap.size w W by rw [hW]; exact HBL.out.alloc HBL.out.size _)
                have HFW := Lib.hid (show Forest (w.heap.size + 5) j i (kd zs) blk Rw W by rw [hW]; exact HF.out.alloc _)
                have HOW := Lib.hid (show W.ownsRow (w.heap.size + 5) 62 12 (.slice a m c) m xs by rw [hW]; exact HO.out.alloc _)
                have hat_ : At W wr.heap.size 62 #[.pointer none, .nilIface, .int .i32 0, .iface T (.pointer (some ⟨bi, 0, none⟩)), .int .i32 0, .nilIface, .int .i32 0, .slice none 0 0, .int .i32 0, .int .i32 0, .int .u8 5, .int .u8 0] := by rw [hW]; exact At.new _ _ _
                have ca2 : W.cell? ⟨w.heap.size + 1 + 1 + 1, q, none⟩ = some (.pointer (some ⟨blk q, 0, none⟩)) := by rw [hW]; exact kAlloc ca
                have r1 : W.cell? ⟨blk q, 0, none⟩ = some (.slice a m c) := by rw [hW]; exact kAlloc h1
                have r2 : W.frozen? ⟨blk q, 0, none⟩ = false := (World.frozen?_of_block (a := ⟨blk q, 0, none⟩) (HWB.out _ (by omega))).trans h2
                have v0 : W.cell? ⟨wr.heap.size, 0, none⟩ = some (.pointer none) := (hat_.cell 0).trans rfl
                have v1 : W.cell? ⟨wr.heap.size, 1, none⟩ = some (.nilIface) := (hat_.cell 1).trans rfl
                have v2 : W.cell? ⟨wr.heap.size, 2, none⟩ = some (.int .i32 0) := (hat_.cell 2).trans rfl
                have v3 : W.cell? ⟨wr.heap.size, 3, none⟩ = some (.iface T (.pointer (some ⟨bi, 0, none⟩))) := (hat_.cell 3).trans rfl
                have v4 : W.cell? ⟨wr.heap.size, 4, none⟩ = some (.int .i32 0) := (hat_.cell 4).trans rfl
                have v5 : W.cell? ⟨wr.heap.size, 5, none⟩ = some (.nilIface) := (hat_.cell 5).trans rfl
                have v6 : W.cell? ⟨wr.heap.size, 6, none⟩ = some (.int .i32 0) := (hat_.cell 6).trans rfl
                have v7 : W.cell? ⟨wr.heap.size, 7, none⟩ = some (.slice none 0 0) := (hat_.cell 7).trans rfl
                have v8 : W.cell? ⟨wr.heap.size, 8, none⟩ = some (.int .i32 0) := (hat_.cell 8).trans rfl
                have v9 : W.cell? ⟨wr.heap.size, 9, none⟩ = some (.int .i32 0) := (hat_.cell 9).trans rfl
                have v10 : W.cell? ⟨wr.heap.size, 10, none⟩ = some (.int .u8 5) := (hat_.cell 10).trans rfl
                have v11 : W.cell? ⟨wr.heap.size, 11, none⟩ = some (.int .u8 0) := (hat_.cell 11).trans rfl
                clear hat_
                rw [← hW]
                clear hW ca h1 h2 e0 e1
                have lW0 : wr.heap.size < W.heap.size := by omega
                have lW1 : w.heap.size + 1 + 1 + 1 < W.heap.size := by omega
                have lW2 : blk q < W.heap.size := by omega
                clear zW
                obtain ⟨gg, cap, w1, hrun, hown1, hgrow, hat, hlt2⟩ := appRun_lies (P := Try.prog) ((W.alloc (.cells #[.pointer none, .nilIface, .int .i32 0, .iface T (.pointer (some ⟨bi, 0, none⟩)), .int .i32 0, .nilIface, .int .i32 0, .slice none 0 0, .int .i32 0, .int .i32 0, .int .u8 5, .int .u8 0] 62)).drew) 63 63 (w.heap.size + 5) 62 i1 _ 12 120 Try.underlying63 J1.out J10.out J11.out J12.out rfl (by omega) (.slice a m c) m xs ((HOW.out.alloc _).drew) ⟨W.heap.size, 0, none⟩ 1 1 [.pointer none, .nilIface, .int .i32 0, .iface T (.pointer (some ⟨bi, 0, none⟩)), .int .i32 0, .nilIface, .int .i32 0, .slice none 0 0, .int .i32 0, .int .i32 0, .int .u8 5, .int .u8 0] (by rfl) (World.news_of_block (cs := #[.pointer none, .nilIface, .int .i32 0, .iface T (.pointer (some ⟨bi, 0, none⟩)), .int .i32 0, .nilIface, .int .i32 0, .slice none 0 0, .int .i32 0, .int .i32 0, .int .u8 5, .int .u8 0]) (t := 62) (fr := (0, 0)) (heap_alloc_new W _)) (by simp [Value.oneCell']) (by omega) (by unfold maxLen; omega) (by omega) (by simp; omega) (W.heap.size + 1) (by simp)
                have s1 : w1.cell? ⟨w.heap.size + 1 + 1 + 1, q, none⟩ = some (.pointer (some ⟨blk q, 0, none⟩)) := (by rw [hgrow.cell_far _ (by simp; try omega) (Ne.symm HN1.out)]; simp [go_sem, *])
                have s2 : w1.cell? ⟨blk q, 0, none⟩ = some (.slice a m c) := (by rw [hgrow.cell_far _ (by simp; try omega) (Ne.symm HN2.out)]; simp [go_sem, *])
                have s3 : w1.frozen? ⟨blk q, 0, none⟩ = false := (by rw [hgrow.frozen_far _ (by simp; try omega) (Ne.symm HN2.out)]; simp [go_sem, *])
                have t0 : w1.cell? ⟨wr.heap.size, 0, none⟩ = some (.pointer none) := (by rw [hgrow.cell_far _ (by simp; try omega) (Ne.symm HN0.out)]; simp [go_sem, *])
                have t1 : w1.cell? ⟨wr.heap.size, 1, none⟩ = some (.nilIface) := (by rw [hgrow.cell_far _ (by simp; try omega) (Ne.symm HN0.out)]; simp [go_sem, *])
                have t2 : w1.cell? ⟨wr.heap.size, 2, none⟩ = some (.int .i32 0) := (by rw [hgrow.cell_far _ (by simp; try omega) (Ne.symm HN0.out)]; simp [go_sem, *])
                have t3 : w1.cell? ⟨wr.heap.size, 3, none⟩ = some (.iface T (.pointer (some ⟨bi, 0, none⟩))) := (by rw [hgrow.cell_far _ (by simp; try omega) (Ne.symm HN0.out)]; simp [go_sem, *])
                have t4 : w1.cell? ⟨wr.heap.size, 4, none⟩ = some (.int .i32 0) := (by rw [hgrow.cell_far _ (by simp; try omega) (Ne.symm HN0.out)]; simp [go_sem, *])
                have t5 : w1.cell? ⟨wr.heap.size, 5, none⟩ = some (.nilIface) := (by rw [hgrow.cell_far _ (by simp; try omega) (Ne.symm HN0.out)]; simp [go_sem, *])
                have t6 : w1.cell? ⟨wr.heap.size, 6, none⟩ = some (.int .i32 0) := (by rw [hgrow.cell_far _ (by simp; try omega) (Ne.symm HN0.out)]; simp [go_sem, *])
                have t7 : w1.cell? ⟨wr.heap.size, 7, none⟩ = some (.slice none 0 0) := (by rw [hgrow.cell_far _ (by simp; try omega) (Ne.symm HN0.out)]; simp [go_sem, *])
                have t8 : w1.cell? ⟨wr.heap.size, 8, none⟩ = some (.int .i32 0) := (by rw [hgrow.cell_far _ (by simp; try omega) (Ne.symm HN0.out)]; simp [go_sem, *])
                have t9 : w1.cell? ⟨wr.heap.size, 9, none⟩ = some (.int .i32 0) := (by rw [hgrow.cell_far _ (by simp; try omega) (Ne.symm HN0.out)]; simp [go_sem, *])
                have t10 : w1.cell? ⟨wr.heap.size, 10, none⟩ = some (.int .u8 5) := (by rw [hgrow.cell_far _ (by simp; try omega) (Ne.symm HN0.out)]; simp [go_sem, *])
                have t11 : w1.cell? ⟨wr.heap.size, 11, none⟩ = some (.int .u8 0) := (by rw [hgrow.cell_far _ (by simp; try omega) (Ne.symm HN0.out)]; simp [go_sem, *])
                have HOWN := Lib.hid hown1
                have HGR := Lib.hid hgrow
                have HAT := Lib.hid hat
                clear hown1 hgrow hat
                go_wp2_with fail
                go_region
                all_goals
                  have KF := Lib.hid (objStep (s := 5) HFW.out q hqi hlt HK.out (by have := HSW.out; omega) HDT.out r1 r2 HX.out.1 HX.out.2.1 h5' HX.out.2.2.2 HOWN.out HGR.out HAT.out hlt2)
                  have hgs := HGR.out.size
                  have KB := Lib.hid (show ∀ b, b < w.heap.size + 5 → (w1.setCell ⟨blk q, 0, none⟩ (.slice (some ⟨gg, 0, none⟩) (m + 1) cap)).heap[b]? = wr.heap[b]? from fun b hb => by
                    rw [Below.heap_setCell _ _ _ b (by simp; omega), HGR.out.block b (by simp; omega) (fun e => by have := HRO.out b e.symm; omega)]
                    exact (Below.heap_alloc W _ b (by have := HSW.out; omega)).trans (HWB.out b (by omega)))
                  have KL := Lib.hid (show Below w.heap.size w (w1.setCell ⟨blk q, 0, none⟩ (.slice (some ⟨gg, 0, none⟩) (m + 1) cap)) from (Below.grown (Below.drew (Below.alloc (HWL.out) (by have := HSW.out; omega) _)) HGR.out (by have := HSW.out; simp; omega) (fun k hk => by have := HRO.out k hk; omega)).setCell (by simp; omega) _)
                  have KS := Lib.hid (show w.heap.size + 5 ≤ (w1.setCell ⟨blk q, 0, none⟩ (.slice (some ⟨gg, 0, none⟩) (m + 1) cap)).heap.size by have := HSW.out; simp at hgs; simp [World.setCell]; omega)
                  clear hrun hgs s1 s2 s3 r1 r2 ca2 v0 v1 v2 v3 v4 v5 v6 v7 v8 v9 v10 v11
                  go_wp2_with fail
                  go_roundw
                  case measure => simp [intOf]; omega
                  case rel => exact ⟨i + 1, _, by omega, by omega, by go_num, Lib.hid ((KB.out _ (by omega)).trans HA.out), Lib.hid ((KB.out _ (by omega)).trans HAA.out), Lib.hid ((KB.out _ (by omega)).trans HAO.out), Lib.hid ((KB.out _ (by omega)).trans HAB.out), KF, KL, Lib.hid ((KB.out _ (by omega)).trans HH.out), KS.out⟩
            · have HK := Lib.hid (kd_lit HZZ.out hk5)
              have HKK := Lib.hid (show kd zs q = 3 ∨ kd zs q = 4 by have := HK.out; omega)
              have hnb : NodeB j (kd zs) blk wr q := by
                have := HK.out
                rcases hnode with h | h | h | h
                · omega
                · omega
                · omega
                · exact h.2
              have HNB := Lib.hid hnb
              obtain ⟨d, d', h1, h2, q0, q1, q2, q3, h7, h8⟩ := hnb
              have p0 := h8 0
              have p1 := h8 1
              have p2 := h8 2
              have p3 := h8 3
              have ca : wr.cell? ⟨w.heap.size + 1 + 1 + 1 + 1, q, none⟩ = some (.pointer (some ⟨blk q, 0, none⟩)) := (HAB.out.cell q).trans (HPB.out q hqj HKK.out)
              clear h1 h2 h7 h8 hnode
              by_cases hy0 : ys = 0
              · subst hy0
                go_wp2_with fail
                go_region
                all_goals
                  have KF := Lib.hid (show Forest (w.heap.size + 5) j (i + 1) (kd zs) blk (fun x => if x = q then Rw q else Rw x) ((wr.setCell ⟨blk q, 0, none⟩ (.iface T (.pointer (some ⟨bi, 0, none⟩)))).setCell ⟨blk q, 1, none⟩ (.int .i32 0)) from by simpa using binStep HF.out q hqi hlt HKK.out (by omega) HNB.out false HDT.out)
                  have KB := Lib.hid (show ∀ b, b < w.heap.size + 5 → ((wr.setCell ⟨blk q, 0, none⟩ (.iface T (.pointer (some ⟨bi, 0, none⟩)))).setCell ⟨blk q, 1, none⟩ (.int .i32 0)).heap[b]? = wr.heap[b]? from fun b hb => by rw [Below.heap_setCell _ _ _ b (by simp; omega), Below.heap_setCell _ _ _ b (by simp; omega)])
                  have KL := Lib.hid (show Below w.heap.size w ((wr.setCell ⟨blk q, 0, none⟩ (.iface T (.pointer (some ⟨bi, 0, none⟩)))).setCell ⟨blk q, 1, none⟩ (.int .i32 0)) from (HBL.out.setCell (by simp; omega) _).setCell (by simp; omega) _)
                  have KS := Lib.hid (show w.heap.size + 5 ≤ ((wr.setCell ⟨blk q, 0, none⟩ (.iface T (.pointer (some ⟨bi, 0, none⟩)))).setCell ⟨blk q, 1, none⟩ (.int .i32 0)).heap.size by simp [World.setCell]; omega)
                  clear q0 q1 q2 q3 p0 p1 p2 p3 ca e0 e1
                  go_wp2_with fail
                  go_roundw
                  case measure => simp [intOf]; omega
                  case rel => exact ⟨i + 1, _, by omega, by omega, by go_num, Lib.hid ((KB.out _ (by omega)).trans HA.out), Lib.hid ((KB.out _ (by omega)).trans HAA.out), Lib.hid ((KB.out _ (by omega)).trans HAO.out), Lib.hid ((KB.out _ (by omega)).trans HAB.out), Lib.hid KF.out.drew, Lib.hid KL.out.drew, Lib.hid ((KB.out _ (by omega)).trans HH.out), KS.out⟩
              · have hy0' : (ys == 0) = false := by simpa using hy0
                go_wp2_with fail
                go_region
                all_goals
                  have KF := Lib.hid (show Forest (w.heap.size + 5) j (i + 1) (kd zs) blk (fun x => if x = q then Rw q else Rw x) ((wr.setCell ⟨blk q, 2, none⟩ (.iface T (.pointer (some ⟨bi, 0, none⟩)))).setCell ⟨blk q, 3, none⟩ (.int .i32 0)) from by simpa using binStep HF.out q hqi hlt HKK.out (by omega) HNB.out true HDT.out)
                  have KB := Lib.hid (show ∀ b, b < w.heap.size + 5 → ((wr.setCell ⟨blk q, 2, none⟩ (.iface T (.pointer (some ⟨bi, 0, none⟩)))).setCell ⟨blk q, 3, none⟩ (.int .i32 0)).heap[b]? = wr.heap[b]? from fun b hb => by rw [Below.heap_setCell _ _ _ b (by simp; omega), Below.heap_setCell _ _ _ b (by simp; omega)])
                  have KL := Lib.hid (show Below w.heap.size w ((wr.setCell ⟨blk q, 2, none⟩ (.iface T (.pointer (some ⟨bi, 0, none⟩)))).setCell ⟨blk q, 3, none⟩ (.int .i32 0)) from (HBL.out.setCell (by simp; omega) _).setCell (by simp; omega) _)
                  have KS := Lib.hid (show w.heap.size + 5 ≤ ((wr.setCell ⟨blk q, 2, none⟩ (.iface T (.pointer (some ⟨bi, 0, none⟩)))).setCell ⟨blk q, 3, none⟩ (.int .i32 0)).heap.size by simp [World.setCell]; omega)
                  clear q0 q1 q2 q3 p0 p1 p2 p3 ca e0 e1
                  go_wp2_with fail
                  go_roundw
                  case measure => simp [intOf]; omega
                  case rel => exact ⟨i + 1, _, by omega, by omega, by go_num, Lib.hid ((KB.out _ (by omega)).trans HA.out), Lib.hid ((KB.out _ (by omega)).trans HAA.out), Lib.hid ((KB.out _ (by omega)).trans HAO.out), Lib.hid ((KB.out _ (by omega)).trans HAB.out), Lib.hid KF.out.drew, Lib.hid KL.out.drew, Lib.hid ((KB.out _ (by omega)).trans HH.out), KS.out⟩
            · have HK := Lib.hid (kd_lit HZZ.out hk5)
              have HKK := Lib.hid (show kd zs q = 3 ∨ kd zs q = 4 by have := HK.out; omega)
              have hnb : NodeB j (kd zs) blk wr q := by
                have := HK.out
                rcases hnode with h | h | h | h
                · omega
                · omega
                · omega
                · exact h.2
              have HNB := Lib.hid hnb
              obtain ⟨d, d', h1, h2, q0, q1, q2, q3, h7, h8⟩ := hnb
              have p0 := h8 0
              have p1 := h8 1
              have p2 := h8 2
              have p3 := h8 3
              have ca : wr.cell? ⟨w.heap.size + 1 + 1 + 1 + 1, q, none⟩ = some (.pointer (some ⟨blk q, 0, none⟩)) := (HAB.out.cell q).trans (HPB.out q hqj HKK.out)
              clear h1 h2 h7 h8 hnode
              by_cases hy0 : ys = 0
              · subst hy0
                go_wp2_with fail
                go_region
                all_goals
                  have KF := Lib.hid (show Forest (w.heap.size + 5) j (i + 1) (kd zs) blk (fun x => if x = q then Rw q else Rw x) ((wr.setCell ⟨blk q, 0, none⟩ (.iface T (.pointer (some ⟨bi, 0, none⟩)))).setCell ⟨blk q, 1, none⟩ (.int .i32 0)) from by simpa using binStep HF.out q hqi hlt HKK.out (by omega) HNB.out false HDT.out)
                  have KB := Lib.hid (show ∀ b, b < w.heap.size + 5 → ((wr.setCell ⟨blk q, 0, none⟩ (.iface T (.pointer (some ⟨bi, 0, none⟩)))).setCell ⟨blk q, 1, none⟩ (.int .i32 0)).heap[b]? = wr.heap[b]? from fun b hb => by rw [Below.heap_setCell _ _ _ b (by simp; omega), Below.heap_setCell _ _ _ b (by simp; omega)])
                  have KL := Lib.hid (show Below w.heap.size w ((wr.setCell ⟨blk q, 0, none⟩ (.iface T (.pointer (some ⟨bi, 0, none⟩)))).setCell ⟨blk q, 1, none⟩ (.int .i32 0)) from (HBL.out.setCell (by simp; omega) _).setCell (by simp; omega) _)
                  have KS := Lib.hid (show w.heap.size + 5 ≤ ((wr.setCell ⟨blk q, 0, none⟩ (.iface T (.pointer (some ⟨bi, 0, none⟩)))).setCell ⟨blk q, 1, none⟩ (.int .i32 0)).heap.size by simp [World.setCell]; omega)
                  clear q0 q1 q2 q3 p0 p1 p2 p3 ca e0 e1
                  go_wp2_with fail
                  go_roundw
                  case measure => simp [intOf]; omega
                  case rel => exact ⟨i + 1, _, by omega, by omega, by go_num, Lib.hid ((KB.out _ (by omega)).trans HA.out), Lib.hid ((KB.out _ (by omega)).trans HAA.out), Lib.hid ((KB.out _ (by omega)).trans HAO.out), Lib.hid ((KB.out _ (by omega)).trans HAB.out), Lib.hid KF.out.drew, Lib.hid KL.out.drew, Lib.hid ((KB.out _ (by omega)).trans HH.out), KS.out⟩
              · have hy0' : (ys == 0) = false := by simpa using hy0
                go_wp2_with fail
                go_region
                all_goals
                  have KF := Lib.hid (show Forest (w.heap.size + 5) j (i + 1) (kd zs) blk (fun x => if x = q then Rw q else Rw x) ((wr.setCell ⟨blk q, 2, none⟩ (.iface T (.pointer (some ⟨bi, 0, none⟩)))).setCell ⟨blk q, 3, none⟩ (.int .i32 0)) from by simpa using binStep HF.out q hqi hlt HKK.out (by omega) HNB.out true HDT.out)
                  have KB := Lib.hid (show ∀ b, b < w.heap.size + 5 → ((wr.setCell ⟨blk q, 2, none⟩ (.iface T (.pointer (some ⟨bi, 0, none⟩)))).setCell ⟨blk q, 3, none⟩ (.int .i32 0)).heap[b]? = wr.heap[b]? from fun b hb => by rw [Below.heap_setCell _ _ _ b (by simp; omega), Below.heap_setCell _ _ _ b (by simp; omega)])
                  have KL := Lib.hid (show Below w.heap.size w ((wr.setCell ⟨blk q, 2, none⟩ (.iface T (.pointer (some ⟨bi, 0, none⟩)))).setCell ⟨blk q, 3, none⟩ (.int .i32 0)) from (HBL.out.setCell (by simp; omega) _).setCell (by simp; omega) _)
                  have KS := Lib.hid (show w.heap.size + 5 ≤ ((wr.setCell ⟨blk q, 2, none⟩ (.iface T (.pointer (some ⟨bi, 0, none⟩)))).setCell ⟨blk q, 3, none⟩ (.int .i32 0)).heap.size by simp [World.setCell]; omega)
                  clear q0 q1 q2 q3 p0 p1 p2 p3 ca e0 e1
                  go_wp2_with fail
                  go_roundw
                  case measure => simp [intOf]; omega
                  case rel => exact ⟨i + 1, _, by omega, by omega, by go_num, Lib.hid ((KB.out _ (by omega)).trans HA.out), Lib.hid ((KB.out _ (by omega)).trans HAA.out), Lib.hid ((KB.out _ (by omega)).trans HAO.out), Lib.hid ((KB.out _ (by omega)).trans HAB.out), Lib.hid KF.out.drew, Lib.hid KL.out.drew, Lib.hid ((KB.out _ (by omega)).trans HH.out), KS.out⟩
        · obtain rfl : i = j := by omega
          have lt : decide (i < i) = false := by simp
          obtain ⟨b0, T, hb0⟩ : ∃ b0 T, dat (kd zs 0) (blk 0) = .iface T (.pointer (some ⟨b0, 0, none⟩)) := ⟨_, _, rfl⟩
          obtain ⟨t, ht⟩ := HF.out.answer (by omega) i 0 (by omega) h0
          rw [hb0] at ht
          have e0 := (HA.out.cell 0).trans (HE.out 0 h0).1
          have e1 := (HA.out.cell 1).trans (HE.out 0 h0).2
          have r0 := HH.out.cell 0
          have r1 := HH.out.cell 1
          have g0 := HH.out.frozen 0
          have g1 := HH.out.frozen 1
          simp at r0 r1
          rw [hb0] at e0
          have HT := Lib.hid ht
          have hw1 : w.heap.size + 1 < wr.heap.size := by omega
          clear ht hb0
          go_wp2_with fail
          exact bodyPost_ret (v := .agg #[.iface T (.pointer (some ⟨b0, 0, none⟩)), .int .i32 0]) (by simp [results, Try.results17, go_sem, *]) rfl ⟨_, t, rfl, .inr ⟨_, _, rfl⟩, (HT.out.ex (((Ex.refl _ wr).set (by omega) 0 _).set (by omega) 1 _)).low (by omega), (HBL.out.setCell (by simp) _).setCell (by simp) _⟩
end Go.Proofs.Ytjcblmbndkacgaa
