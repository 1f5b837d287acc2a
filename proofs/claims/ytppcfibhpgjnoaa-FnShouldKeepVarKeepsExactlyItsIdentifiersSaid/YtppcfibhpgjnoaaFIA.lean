/- Proved here: what findIdentifiers appends at a name, a gap, an array and an object pattern, from what it appends at the parts. Conditions: the cells, as stated. -/
import Derived.Test.YtppcfibhpgjnoaaBase
import Derived.WalkKit
import Derived.WalkSpells
import Derived.WalkLawsBesides
import Derived.Lib.Hide
import Derived.Lib.SliceRun
import Derived.Deep.RegionWith
import Derived.OwnWalk
import Derived.Laws.OwnMore
import Derived.Deep.AppendLies
namespace Go.Proofs.Ytppcfibhpgjnoaa
open Go.RowKit
set_option linter.unusedSimpArgs false
set_option linter.unusedVariables false

/-- The slice v' lies where v lay, or in a block that is new. -/
def Lies (v v' : Value) (W : World) : Prop := v'.ownBlock = v.ownBlock ∨ ∃ g, v'.ownBlock = some g ∧ W.heap.size ≤ g
theorem Lies.refl (v : Value) (W : World) : Lies v v W := .inl rfl
theorem Lies.trans {v v1 v2 : Value} {W W1 : World} (h : Lies v v1 W) (k : Lies v1 v2 W1) (hs : W.heap.size ≤ W1.heap.size) : Lies v v2 W := by
  rcases k with k | ⟨g, k, hg⟩
  · rcases h with h | ⟨g, h, hg⟩
    · exact .inl (k.trans h)
    · exact .inr ⟨g, k.trans h, hg⟩
  · exact .inr ⟨g, k, by omega⟩
theorem Lies.not {v v' : Value} {W : World} {S : Nat → Prop} (h : Lies v v' W) (hS : ∀ b, S b → b < W.heap.size) (hv : ∀ b, v.ownBlock = some b → ¬ S b) : ∀ b, v'.ownBlock = some b → ¬ S b := by
  intro b hb hs
  rcases h with h | ⟨g, h, hg⟩
  · exact hv b (h.symm.trans hb) hs
  · rw [h] at hb; simp only [Option.some.injEq] at hb; subst hb; have := hS _ hs; omega
theorem Lies.low {v v' : Value} {W W0 : World} (h : Lies v v' W) (hs : W0.heap.size ≤ W.heap.size) : Lies v v' W0 := by
  rcases h with h | ⟨g, h, hg⟩
  · exact .inl h
  · exact .inr ⟨g, h, by omega⟩
theorem gRefl (w : World) (r : Option Nat) : w.grownBy w r := ⟨rfl, rfl, rfl, Nat.le_refl _, fun _ _ _ => rfl⟩
theorem gAlloc {a b : World} {r : Option Nat} (h : a.grownBy b r) (o : Obj) : a.grownBy (b.alloc o) r := ⟨h.os, h.tape, h.output, by have := h.size; simp; omega, fun k hk hr => (Below.heap_alloc b o k (by have := h.size; omega)).trans (h.block k hk hr)⟩
theorem gSet {a b : World} {r : Option Nat} (h : a.grownBy b r) {g : Nat} (hg : a.heap.size ≤ g ∨ r = some g) (i : Nat) (v : Value) : a.grownBy (b.setCell ⟨g, i, none⟩ v) r := ⟨h.os, h.tape, h.output, by have := h.size; simp [World.setCell]; omega, fun k hk hr => (Below.heap_setCell b ⟨g, i, none⟩ v k (by rintro rfl; rcases hg with hg | hg; all_goals first | (exfalso; omega) | exact hr hg.symm)).trans (h.block k hk hr)⟩
theorem gTrans {a b c : World} {r r' : Option Nat} (h : a.grownBy b r) (k : b.grownBy c r') (hr : r' = r ∨ r' = none ∨ ∃ g, r' = some g ∧ a.heap.size ≤ g) : a.grownBy c r :=
  ⟨k.os.trans h.os, k.tape.trans h.tape, k.output.trans h.output, Nat.le_trans h.size k.size, fun i hi hne => (k.block i (Nat.lt_of_lt_of_le hi h.size) (by
    rcases hr with rfl | rfl | ⟨g, rfl, hg⟩
    · exact hne
    · simp
    · intro e; simp only [Option.some.injEq] at e; omega)).trans (h.block i hi hne)⟩
theorem gLies {a b c : World} {v v' : Value} (h : a.grownBy b v.ownBlock) (hl : Lies v v' a) (k : b.grownBy c v'.ownBlock) : a.grownBy c v.ownBlock :=
  gTrans h k (by rcases hl with hl | ⟨g, hl, hg⟩ <;> first | exact .inl hl | exact .inr (.inr ⟨g, hl, hg⟩))
theorem gDrop {a b : World} {r : Option Nat} (h : a.grownBy b r) (hr : ∀ k, r = some k → a.heap.size ≤ k) : a.grownBy b none :=
  ⟨h.os, h.tape, h.output, h.size, fun k hk _ => h.block k hk (fun e => by have := hr k e.symm; omega)⟩
theorem gBelow {a b : World} {r : Option Nat} (h : a.grownBy b r) {B : Nat} (hB : B ≤ a.heap.size) (hr : ∀ k, r = some k → B ≤ k) : Below B a b := ⟨h.os, h.tape, h.output, h.size, fun k hk => h.block k (by omega) (fun e => by have := hr k e.symm; omega)⟩
theorem ownLt {w : World} {B : Nat} {e : TypeId} {sz : Nat} {v : Value} {n : Nat} {xs : List Value} (h : w.ownsRow B e sz v n xs) : ∀ k, v.ownBlock = some k → k < w.heap.size := fun k hk => (World.ownsRow.lt h k hk).2
theorem ownKeep {w w' : World} {B : Nat} {e : TypeId} {sz : Nat} {v : Value} {n : Nat} {xs : List Value} (h : w.ownsRow B e sz v n xs) (hb : ∀ k, v.ownBlock = some k → w'.heap[k]? = w.heap[k]?) : w'.ownsRow B e sz v n xs := by
  refine ⟨h.1, ?_⟩
  rcases h.2 with hn | ⟨g, cap, cur, rfl, h1, hg, rest⟩
  · exact .inl hn
  · exact .inr ⟨g, cap, cur, rfl, h1, (hb g rfl).trans hg, rest⟩
def dcells (L : List (Nat × Int)) : List Value := L.flatMap fun p => [.iface 165 (.pointer (some ⟨p.1, 0, none⟩)), .int .i32 p.2, .nilIface, .int .i32 0]
theorem dcells_app (a b : List (Nat × Int)) : dcells (a ++ b) = dcells a ++ dcells b := by simp [dcells]
def FIP (base : Nat) (W : World) (v : Value) (m : Nat) (xs : List Value) (L : List (Nat × Int)) (e : Ending) (w' : World) : Prop :=
  ∃ v', e = .returned v' ∧ w'.ownsRow base 67 4 v' (m + L.length) (xs ++ dcells L) ∧ W.grownBy w' v.ownBlock ∧ Lies v v' W
/-- In w and in whatever keeps its blocks of S: findIdentifiers at the binding (d, l) appends L. -/
def FI (S : Nat → Prop) (w : World) (d : Value) (l : Int) (L : List (Nat × Int)) : Prop :=
  (∀ b, S b → b < w.heap.size) ∧ ∀ W, (∀ b, S b → W.heap[b]? = w.heap[b]?) → ∀ (base : Nat) (v : Value) (m : Nat) (xs : List Value), W.ownsRow base 67 4 v m xs → (∀ b, v.ownBlock = some b → ¬ S b) → base ≤ W.heap.size → m + L.length ≤ 1048576 →
    Calls Try.prog 45 #[.agg #[d, .int .i32 l], v] W (FIP base W v m xs L)
theorem FI.keep {S : Nat → Prop} {w w' : World} {d : Value} {l : Int} {L : List (Nat × Int)} (h : FI S w d l L) (hs : w.heap.size ≤ w'.heap.size) (hk : ∀ b, S b → w'.heap[b]? = w.heap[b]?) : FI S w' d l L :=
  ⟨fun b hb => Nat.lt_of_lt_of_le (h.1 b hb) hs, fun W hW => h.2 W (fun b hb => (hW b hb).trans (hk b hb))⟩
theorem FI.more {S S' : Nat → Prop} {w : World} {d : Value} {l : Int} {L : List (Nat × Int)} (h : FI S w d l L) (hs : ∀ b, S b → S' b) (hl : ∀ b, S' b → b < w.heap.size) : FI S' w d l L :=
  ⟨hl, fun W hW base v m xs ho hd => h.2 W (fun b hb => hW b (hs b hb)) base v m xs ho (fun b hb hS => hd b hb (hs b hS))⟩
def IsD (v : Value) : Prop := ∃ t b, v = .iface t (.pointer (some ⟨b, 0, none⟩))
/-- The first k lists one after another. -/
def cat (Ls : Nat → List (Nat × Int)) (k : Nat) : List (Nat × Int) := (List.range k).flatMap Ls
theorem cat_succ (Ls : Nat → List (Nat × Int)) (k : Nat) : cat Ls (k + 1) = cat Ls k ++ Ls k := by simp [cat, List.range_succ]
theorem cat_zero (Ls : Nat → List (Nat × Int)) : cat Ls 0 = [] := rfl
theorem cat_le (Ls : Nat → List (Nat × Int)) : ∀ {k n : Nat}, k ≤ n → (cat Ls k).length ≤ (cat Ls n).length := by
  intro k n h
  obtain ⟨j, rfl⟩ := Nat.exists_eq_add_of_le h
  clear h
  induction j with
  | zero => exact Nat.le_refl _
  | succ j ih => rw [show k + (j + 1) = (k + j) + 1 from by omega, cat_succ]; simp; omega
theorem infoD : (Try.prog.info? 67).map (fun i => (i.zero, i.size, i.bytes)) = some (some (.agg #[.nilIface, .int .i32 0, .nilIface, .int .i32 0]), 4, 48) := by kernel_rfl

theorem own0 (w : World) (B : Nat) (e : TypeId) (sz : Nat) : w.ownsRow B e sz (.slice none 0 0) 0 [] := ⟨by simp, .inl ⟨rfl, rfl⟩⟩
def IsN (v : Value) : Prop := v = .nilIface ∨ IsD v
set_option maxRecDepth 100000 in
set_option maxHeartbeats 1000000 in
theorem fiMi (w : World) (b : Nat) (l : Int) : FI (fun _ => False) w (.iface 163 (.pointer (some ⟨b, 0, none⟩))) l [] := by
  refine ⟨fun b hb => hb.elim, ?_⟩
  intro W _ base v m xs ho hd hb hm
  have HO := Lib.hid ho
  clear ho hd
  go_enter Try.func45, Try.ntmps45
  go_wp2_with fail
  go_ret
  exact ⟨v, rfl, by simpa [dcells] using HO.out.alloc _, gAlloc (gRefl _ _) _, Lies.refl _ _⟩
set_option maxRecDepth 100000 in
set_option maxHeartbeats 1000000 in
theorem fiId (w : World) (b : Nat) (l : Int) : FI (fun _ => False) w (.iface 165 (.pointer (some ⟨b, 0, none⟩))) l [(b, l)] := by
  refine ⟨fun b hb => hb.elim, ?_⟩
  intro W _ base v m xs ho hd hb hm
  obtain ⟨i0, hi0, hz0, hz1, hz2⟩ := info_parts infoD
  have HO := Lib.hid ho
  have HI := Lib.hid hi0
  have H0 := Lib.hid hz0
  have H1 := Lib.hid hz1
  have H2 := Lib.hid hz2
  have HM : m + 1 ≤ 1048576 := by simpa using hm
  clear ho hd hi0 hz0 hz1 hz2 hm
  go_enter Try.func45, Try.ntmps45
  go_wp2_with (with_reducible refine wpList_append_lies _ (o := ⟨some 21, _, _, _, _, _⟩) rfl _ _ 64 rfl base 67 i0 _ 4 48 Try.underlying64 HI.out H0.out H1.out H2.out rfl (by omega) v m xs rfl ((HO.out.alloc _).alloc _) ⟨W.heap.size + 1, 0, none⟩ 1 1 [.iface 165 (.pointer (some ⟨b, 0, none⟩)), .int .i32 l, .nilIface, .int .i32 0] rfl rfl ?e2 ?e3 (by omega) ?e4 ?e5 ?e6 (W.heap.size + 1 + 1) ?e7 ?_)
  case e3 => simp [Value.oneCell']
  case e4 => unfold maxLen; omega
  case e5 => omega
  case e6 => first | omega | (simp; omega)
  intro g cap w1 hown hgr hlie hlt
  have HO1 := Lib.hid hown
  have HG1 := Lib.hid hgr
  have HL1 := Lib.hid hlie
  clear hown hgr hlie
  go_wp2_with fail
  go_ret
  exact ⟨_, rfl, HO1.out, gTrans (gAlloc (gAlloc (gRefl _ _) _) _) HG1.out (.inl rfl), by rcases HL1.out with h | h <;> first | exact .inl h.symm | exact .inr ⟨g, rfl, by omega⟩⟩

/-- The cells xs are j items, at the q-th findIdentifiers appends Ls q. -/
def ItA (S : Nat → Prop) (w : World) (xs : List Value) (j : Nat) (Ls : Nat → List (Nat × Int)) : Prop := xs.length = j * 5 ∧ ∀ q, q < j → ∃ (d : Value) (l : Int) (dv : Value) (e1 e2 : Int), IsD d ∧ IsN dv ∧ FI S w d l (Ls q) ∧ xs[q * 5]? = some (d) ∧ xs[q * 5 + 1]? = some (.int .i32 l) ∧ xs[q * 5 + 2]? = some (dv) ∧ xs[q * 5 + 3]? = some (.int .i32 e1) ∧ xs[q * 5 + 4]? = some (.int .i32 e2)
theorem ItA.keep {S : Nat → Prop} {w w' : World} {xs : List Value} {j : Nat} {Ls : Nat → List (Nat × Int)} (h : ItA S w xs j Ls) (hs : w.heap.size ≤ w'.heap.size) (hk : ∀ b, S b → w'.heap[b]? = w.heap[b]?) : ItA S w' xs j Ls :=
  ⟨h.1, fun q hq => by obtain ⟨d', l', dv', e1', e2', h1, h0, h2, x0, x1, x2, x3, x4⟩ := h.2 q hq; exact ⟨d', l', dv', e1', e2', h1, h0, h2.keep hs hk, x0, x1, x2, x3, x4⟩⟩
theorem ItA.more {S S' : Nat → Prop} {w : World} {xs : List Value} {j : Nat} {Ls : Nat → List (Nat × Int)} (h : ItA S w xs j Ls) (hs : ∀ b, S b → S' b) (hl : ∀ b, S' b → b < w.heap.size) : ItA S' w xs j Ls :=
  ⟨h.1, fun q hq => by obtain ⟨d', l', dv', e1', e2', h1, h0, h2, x0, x1, x2, x3, x4⟩ := h.2 q hq; exact ⟨d', l', dv', e1', e2', h1, h0, h2.more hs hl, x0, x1, x2, x3, x4⟩⟩
theorem ItA.snoc {S : Nat → Prop} {w : World} {xs : List Value} {j : Nat} {Ls : Nat → List (Nat × Int)} (h : ItA S w xs j Ls) (d : Value) (l : Int) (dv : Value) (e1 e2 : Int) (L : List (Nat × Int)) (hd : IsD d) (hv : IsN dv) (hb : FI S w d l L) : ItA S w (xs ++ [d, .int .i32 l, dv, .int .i32 e1, .int .i32 e2]) (j + 1) (fun q => if q = j then L else Ls q) := by
  refine ⟨by simp [h.1]; omega, fun q hq => ?_⟩
  by_cases e : q = j
  · subst e
    have l1 := h.1
    refine ⟨d, l, dv, e1, e2, hd, hv, by simpa using hb, ?_, ?_, ?_, ?_, ?_⟩ <;> (rw [List.getElem?_append_right (by omega), l1]; simp)
  · obtain ⟨d', l', dv', e1', e2', h1, h0, h2, x0, x1, x2, x3, x4⟩ := h.2 q (by omega)
    have l1 := h.1
    refine ⟨d', l', dv', e1', e2', h1, h0, by simpa [e] using h2, ?_, ?_, ?_, ?_, ?_⟩ <;> (rw [List.getElem?_append_left (by omega)]; assumption)

/-- The cells xs are j items, at the q-th findIdentifiers appends Ls q. -/
def ItO (S : Nat → Prop) (w : World) (xs : List Value) (j : Nat) (Ls : Nat → List (Nat × Int)) : Prop := xs.length = j * 11 ∧ ∀ q, q < j → ∃ (d : Value) (l : Int), IsD d ∧ FI S w d l (Ls q) ∧ xs[q * 11]? = some (.nilIface) ∧ xs[q * 11 + 1]? = some (.int .i32 0) ∧ xs[q * 11 + 2]? = some (d) ∧ xs[q * 11 + 3]? = some (.int .i32 l) ∧ xs[q * 11 + 4]? = some (.nilIface) ∧ xs[q * 11 + 5]? = some (.int .i32 0) ∧ xs[q * 11 + 6]? = some (.int .i32 0) ∧ xs[q * 11 + 7]? = some (.int .i32 0) ∧ xs[q * 11 + 8]? = some (.bool false) ∧ xs[q * 11 + 9]? = some (.bool false) ∧ xs[q * 11 + 10]? = some (.bool false)
theorem ItO.keep {S : Nat → Prop} {w w' : World} {xs : List Value} {j : Nat} {Ls : Nat → List (Nat × Int)} (h : ItO S w xs j Ls) (hs : w.heap.size ≤ w'.heap.size) (hk : ∀ b, S b → w'.heap[b]? = w.heap[b]?) : ItO S w' xs j Ls :=
  ⟨h.1, fun q hq => by obtain ⟨d', l', h1, h2, x0, x1, x2, x3, x4, x5, x6, x7, x8, x9, x10⟩ := h.2 q hq; exact ⟨d', l', h1, h2.keep hs hk, x0, x1, x2, x3, x4, x5, x6, x7, x8, x9, x10⟩⟩
theorem ItO.more {S S' : Nat → Prop} {w : World} {xs : List Value} {j : Nat} {Ls : Nat → List (Nat × Int)} (h : ItO S w xs j Ls) (hs : ∀ b, S b → S' b) (hl : ∀ b, S' b → b < w.heap.size) : ItO S' w xs j Ls :=
  ⟨h.1, fun q hq => by obtain ⟨d', l', h1, h2, x0, x1, x2, x3, x4, x5, x6, x7, x8, x9, x10⟩ := h.2 q hq; exact ⟨d', l', h1, h2.more hs hl, x0, x1, x2, x3, x4, x5, x6, x7, x8, x9, x10⟩⟩
theorem ItO.snoc {S : Nat → Prop} {w : World} {xs : List Value} {j : Nat} {Ls : Nat → List (Nat × Int)} (h : ItO S w xs j Ls) (d : Value) (l : Int) (L : List (Nat × Int)) (hd : IsD d) (hb : FI S w d l L) : ItO S w (xs ++ [.nilIface, .int .i32 0, d, .int .i32 l, .nilIface, .int .i32 0, .int .i32 0, .int .i32 0, .bool false, .bool false, .bool false]) (j + 1) (fun q => if q = j then L else Ls q) := by
  refine ⟨by simp [h.1]; omega, fun q hq => ?_⟩
  by_cases e : q = j
  · subst e
    have l1 := h.1
    refine ⟨d, l, hd, by simpa using hb, ?_, ?_, ?_, ?_, ?_, ?_, ?_, ?_, ?_, ?_, ?_⟩ <;> (rw [List.getElem?_append_right (by omega), l1]; simp)
  · obtain ⟨d', l', h1, h2, x0, x1, x2, x3, x4, x5, x6, x7, x8, x9, x10⟩ := h.2 q (by omega)
    have l1 := h.1
    refine ⟨d', l', h1, by simpa [e] using h2, ?_, ?_, ?_, ?_, ?_, ?_, ?_, ?_, ?_, ?_, ?_⟩ <;> (rw [List.getElem?_append_left (by omega)]; assumption)

def FL (base n : Nat) (Ls : Nat → List (Nat × Int)) (W : World) (v : Value) (m : Nat) (xs : List Value) (s i : Value) (wr : World) : Prop :=
  ∃ (k : Nat) (v1 : Value), k ≤ n ∧ i = .int .i64 k ∧ v1 = s ∧ Hid (wr.ownsRow base 67 4 v1 (m + (cat Ls k).length) (xs ++ dcells (cat Ls k))) ∧ Hid (W.grownBy wr v.ownBlock) ∧ Hid (Lies v v1 W)

set_option maxRecDepth 100000 in
set_option maxHeartbeats 4000000 in
theorem fiArr (S : Nat → Prop) (b R n c : Nat) (l0 : Int) (xs : List Value) (Ls : Nat → List (Nat × Int)) (B2 : Nat) (u1 : Array Value) (w : World) (hb : S b) (hR : S R) (h0 : w.cell? ⟨b, 0, none⟩ = some (.slice (some ⟨R, 0, none⟩) n c)) (ho : w.ownsRow B2 54 5 (.slice (some ⟨R, 0, none⟩) n c) n xs) (hi : ItA S w xs n Ls) (hS : ∀ k, S k → k < w.heap.size) (hn : n ≤ 1048576) :
    FI S w (.iface 48 (.pointer (some ⟨b, 0, none⟩))) l0 (cat Ls n) := by
  refine ⟨hS, ?_⟩
  intro W hW base v m ys hv hd hbase hm
  have e0 : W.cell? ⟨b, 0, none⟩ = some (.slice (some ⟨R, 0, none⟩) n c) := (World.cell?_of_block (a := ⟨b, 0, none⟩) (hW b hb)).trans h0
  have HO := Lib.hid (ownKeep ho (fun k hk => by simp only [Value.ownBlock, Option.some.injEq] at hk; subst hk; exact hW _ hR))
  have HI := Lib.hid hi
  have HW := Lib.hid hW
  have HV := Lib.hid hv
  have HD := Lib.hid hd
  have HM := Lib.hid hm
  have HS := Lib.hid (show ∀ k, S k → k < W.heap.size from fun k hk => by
    have h1 := hS k hk
    have h2 := hW k hk
    rw [Array.getElem?_eq_getElem h1] at h2
    exact (Array.getElem?_eq_some_iff.1 h2).1)
  have lb : b < W.heap.size := World.block_lt_of_cell? _ _ e0
  clear h0 ho hi hW hv hd hm hS
  go_enter Try.func45, Try.ntmps45
  go_wp2_with fail
  go_loopw [1, 30] (fun s i wr => FL base n Ls W v m ys s i wr) (fun _ i _ => n - (intOf i).toNat)
  case atStart => exact ⟨0, _, Nat.zero_le _, rfl, rfl, Lib.hid (by simpa [cat, dcells] using HV.out.alloc _), Lib.hid (gAlloc (gRefl _ _) _), Lib.hid (Lies.refl _ _)⟩
  case round =>
    obtain ⟨k, s, hk, rfl, rfl, HX, HG, HL⟩ := hrel
    by_cases hlt : k < n
    · obtain ⟨d, l, dv, e1, e2, ⟨ty, bb, rfl⟩, hn, hfi, x0, x1, x2, x3, x4⟩ := HI.out.2 k hlt
      have HK := Lib.hid hfi
      clear hfi
      have KW := Lib.hid (show ∀ q, S q → wr.heap[q]? = W.heap[q]? from fun q hq => HG.out.block q (HS.out q hq) (fun e => HD.out q e.symm hq))
      have HR : wr.ownsRow B2 54 5 (.slice (some ⟨R, 0, none⟩) n c) n xs := ownKeep HO.out (fun q hq => by simp only [Value.ownBlock, Option.some.injEq] at hq; subst hq; exact KW.out _ hR)
      have c0 : wr.cell? ⟨R, k * 5, none⟩ = some (.iface ty (.pointer (some ⟨bb, 0, none⟩))) := by rw [World.ownsRow.cellAt HR _ (by omega)]; exact x0
      have c1 : wr.cell? ⟨R, k * 5 + 1, none⟩ = some (.int .i32 l) := by rw [World.ownsRow.cellAt HR _ (by omega)]; exact x1
      have c2 : wr.cell? ⟨R, k * 5 + 2, none⟩ = some (dv) := by rw [World.ownsRow.cellAt HR _ (by omega)]; exact x2
      have c3 : wr.cell? ⟨R, k * 5 + 3, none⟩ = some (.int .i32 e1) := by rw [World.ownsRow.cellAt HR _ (by omega)]; exact x3
      have c4 : wr.cell? ⟨R, k * 5 + 4, none⟩ = some (.int .i32 e2) := by rw [World.ownsRow.cellAt HR _ (by omega)]; exact x4
      have lR : R < wr.heap.size := World.block_lt_of_cell? _ _ c0
      have hms : m + (cat Ls k).length + (Ls k).length ≤ 1048576 := by
        have h1 := cat_le Ls (show k + 1 ≤ n from hlt)
        rw [cat_succ] at h1
        have h2 := HM.out
        simp at h1
        omega
      have HMS := Lib.hid hms
      have ZW := HG.out.size
      clear x0 x1 x2 x3 x4 HR hms
      rcases hn with rfl | ⟨ty2, b2, rfl⟩
      all_goals
        go_wp2_with fail
        refine (HK.out.2 _ (fun q hq => (Below.heap_alloc wr _ q (by have := HS.out q hq; omega)).trans ((KW.out q hq).trans (HW.out q hq))) base s _ _ (HX.out.alloc _) (fun q hq hs => Lies.not HL.out HS.out HD.out q hq hs) (by simp; omega) HMS.out).mono ?_
        rintro e w1 ⟨v', rfl, ho1, hg1, hl1⟩
        have HX1 := Lib.hid (show w1.ownsRow base 67 4 v' (m + (cat Ls (k + 1)).length) (ys ++ dcells (cat Ls (k + 1))) from by rw [cat_succ, dcells_app]; simpa [Nat.add_assoc] using ho1)
        have HG1 := Lib.hid (gLies (gAlloc HG.out _) HL.out hg1)
        have HL1 := Lib.hid (Lies.trans HL.out (hl1.low (show wr.heap.size ≤ _ by simp)) ZW)
        clear ho1 hg1 hl1 HK HX HG HL KW
        go_wp2_with fail
        go_roundw
        case rel => exact ⟨k + 1, _, by omega, by go_num, rfl, HX1, HG1, HL1⟩
        case measure => simp [intOf]; omega
    · have e : k = n := by omega
      subst e
      go_wp2_with fail
      go_ret
      exact ⟨s, rfl, by have h := HX.out; exact h, HG.out, HL.out⟩

set_option maxRecDepth 100000 in
set_option maxHeartbeats 4000000 in
theorem fiObj (S : Nat → Prop) (b R n c : Nat) (l0 : Int) (xs : List Value) (Ls : Nat → List (Nat × Int)) (B2 : Nat) (u1 : Array Value) (w : World) (hb : S b) (hR : S R) (h0 : w.cell? ⟨b, 0, none⟩ = some (.slice (some ⟨R, 0, none⟩) n c)) (ho : w.ownsRow B2 60 11 (.slice (some ⟨R, 0, none⟩) n c) n xs) (hi : ItO S w xs n Ls) (hS : ∀ k, S k → k < w.heap.size) (hn : n ≤ 1048576) :
    FI S w (.iface 58 (.pointer (some ⟨b, 0, none⟩))) l0 (cat Ls n) := by
  refine ⟨hS, ?_⟩
  intro W hW base v m ys hv hd hbase hm
  have e0 : W.cell? ⟨b, 0, none⟩ = some (.slice (some ⟨R, 0, none⟩) n c) := (World.cell?_of_block (a := ⟨b, 0, none⟩) (hW b hb)).trans h0
  have HO := Lib.hid (ownKeep ho (fun k hk => by simp only [Value.ownBlock, Option.some.injEq] at hk; subst hk; exact hW _ hR))
  have HI := Lib.hid hi
  have HW := Lib.hid hW
  have HV := Lib.hid hv
  have HD := Lib.hid hd
  have HM := Lib.hid hm
  have HS := Lib.hid (show ∀ k, S k → k < W.heap.size from fun k hk => by
    have h1 := hS k hk
    have h2 := hW k hk
    rw [Array.getElem?_eq_getElem h1] at h2
    exact (Array.getElem?_eq_some_iff.1 h2).1)
  have lb : b < W.heap.size := World.block_lt_of_cell? _ _ e0
  clear h0 ho hi hW hv hd hm hS
  go_enter Try.func45, Try.ntmps45
  go_wp2_with fail
  go_loopw [1, 47] (fun s i wr => FL base n Ls W v m ys s i wr) (fun _ i _ => n - (intOf i).toNat)
  case atStart => exact ⟨0, _, Nat.zero_le _, rfl, rfl, Lib.hid (by simpa [cat, dcells] using HV.out.alloc _), Lib.hid (gAlloc (gRefl _ _) _), Lib.hid (Lies.refl _ _)⟩
  case round =>
    obtain ⟨k, s, hk, rfl, rfl, HX, HG, HL⟩ := hrel
    by_cases hlt : k < n
    · obtain ⟨d, l, ⟨ty, bb, rfl⟩, hfi, x0, x1, x2, x3, x4, x5, x6, x7, x8, x9, x10⟩ := HI.out.2 k hlt
      have HK := Lib.hid hfi
      clear hfi
      have KW := Lib.hid (show ∀ q, S q → wr.heap[q]? = W.heap[q]? from fun q hq => HG.out.block q (HS.out q hq) (fun e => HD.out q e.symm hq))
      have HR : wr.ownsRow B2 60 11 (.slice (some ⟨R, 0, none⟩) n c) n xs := ownKeep HO.out (fun q hq => by simp only [Value.ownBlock, Option.some.injEq] at hq; subst hq; exact KW.out _ hR)
      have c0 : wr.cell? ⟨R, k * 11, none⟩ = some (.nilIface) := by rw [World.ownsRow.cellAt HR _ (by omega)]; exact x0
      have c1 : wr.cell? ⟨R, k * 11 + 1, none⟩ = some (.int .i32 0) := by rw [World.ownsRow.cellAt HR _ (by omega)]; exact x1
      have c2 : wr.cell? ⟨R, k * 11 + 2, none⟩ = some (.iface ty (.pointer (some ⟨bb, 0, none⟩))) := by rw [World.ownsRow.cellAt HR _ (by omega)]; exact x2
      have c3 : wr.cell? ⟨R, k * 11 + 3, none⟩ = some (.int .i32 l) := by rw [World.ownsRow.cellAt HR _ (by omega)]; exact x3
      have c4 : wr.cell? ⟨R, k * 11 + 4, none⟩ = some (.nilIface) := by rw [World.ownsRow.cellAt HR _ (by omega)]; exact x4
      have c5 : wr.cell? ⟨R, k * 11 + 5, none⟩ = some (.int .i32 0) := by rw [World.ownsRow.cellAt HR _ (by omega)]; exact x5
      have c6 : wr.cell? ⟨R, k * 11 + 6, none⟩ = some (.int .i32 0) := by rw [World.ownsRow.cellAt HR _ (by omega)]; exact x6
      have c7 : wr.cell? ⟨R, k * 11 + 7, none⟩ = some (.int .i32 0) := by rw [World.ownsRow.cellAt HR _ (by omega)]; exact x7
      have c8 : wr.cell? ⟨R, k * 11 + 8, none⟩ = some (.bool false) := by rw [World.ownsRow.cellAt HR _ (by omega)]; exact x8
      have c9 : wr.cell? ⟨R, k * 11 + 9, none⟩ = some (.bool false) := by rw [World.ownsRow.cellAt HR _ (by omega)]; exact x9
      have c10 : wr.cell? ⟨R, k * 11 + 10, none⟩ = some (.bool false) := by rw [World.ownsRow.cellAt HR _ (by omega)]; exact x10
      have lR : R < wr.heap.size := World.block_lt_of_cell? _ _ c0
      have hms : m + (cat Ls k).length + (Ls k).length ≤ 1048576 := by
        have h1 := cat_le Ls (show k + 1 ≤ n from hlt)
        rw [cat_succ] at h1
        have h2 := HM.out
        simp at h1
        omega
      have HMS := Lib.hid hms
      have ZW := HG.out.size
      clear x0 x1 x2 x3 x4 x5 x6 x7 x8 x9 x10 HR hms
      go_wp2_with fail
      refine (HK.out.2 _ (fun q hq => (Below.heap_alloc wr _ q (by have := HS.out q hq; omega)).trans ((KW.out q hq).trans (HW.out q hq))) base s _ _ (HX.out.alloc _) (fun q hq hs => Lies.not HL.out HS.out HD.out q hq hs) (by simp; omega) HMS.out).mono ?_
      rintro e w1 ⟨v', rfl, ho1, hg1, hl1⟩
      have HX1 := Lib.hid (show w1.ownsRow base 67 4 v' (m + (cat Ls (k + 1)).length) (ys ++ dcells (cat Ls (k + 1))) from by rw [cat_succ, dcells_app]; simpa [Nat.add_assoc] using ho1)
      have HG1 := Lib.hid (gLies (gAlloc HG.out _) HL.out hg1)
      have HL1 := Lib.hid (Lies.trans HL.out (hl1.low (show wr.heap.size ≤ _ by simp)) ZW)
      clear ho1 hg1 hl1 HK HX HG HL KW
      go_wp2_with fail
      go_roundw
      case rel => exact ⟨k + 1, _, by omega, by go_num, rfl, HX1, HG1, HL1⟩
      case measure => simp [intOf]; omega
    · have e : k = n := by omega
      subst e
      go_wp2_with fail
      go_ret
      exact ⟨s, rfl, by have h := HX.out; exact h, HG.out, HL.out⟩
end Go.Proofs.Ytppcfibhpgjnoaa
