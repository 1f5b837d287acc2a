/- Proved here: the stack of scopes, frames, and the wrapper of the push. Conditions as stated. -/
import Derived.Test.YthgcchgpplblbaaFmtPSD
import Derived.WalkKit
import Derived.WalkSpells
import Derived.WalkLawsBesides
import Derived.Lib.Hide
import Derived.Lib.SliceRun
import Derived.Deep.RegionWith
import Derived.OwnWalk
import Derived.Laws.OwnMore
import Derived.BigRegion
import Derived.Carry
namespace Go.Proofs.YthgcchgpplblbaaFmt
open Go.RowKit
set_option linter.unusedSimpArgs false
set_option linter.unusedVariables false
namespace PS

def smOf (md : Int) (r : Nat) : Int := if r = 0 then md else 0
theorem ROW.mono {w : World} {lo : Nat} {v : Value} {m m' : Nat} (h : ROW w lo v m) (hm : m ≤ m') : ROW w lo v m' := by
  obtain ⟨a, n, c, e, hn, h⟩ := h
  exact ⟨a, n, c, e, by omega, h⟩
/-- The scopes of the stack, the top first: block and index. -/
inductive SCH (w : World) (lo : Nat) (md us : Int) (ks : List Int) (ro : List Nat) (m : Nat) : List (Nat × Nat) → Option Addr → Prop
  | nil : SCH w lo md us ks ro m [] none
  | cons (b j : Nat) (rest : List (Nat × Nat)) (pv : Option Addr) (ch : Value) (mb : Nat) (h : At w b 41 (scv (.pointer pv) ch mb (smOf us (ro.getD j 0)) (smOf md (ro.getD j 0)) (ks.getD j 0))) (hr : ROW w lo ch m) (hm : w.heap[mb]? = some (.map #[] 0)) (hlo : lo ≤ b) (hne : ∀ e ∈ rest, e.1 ≠ b) (t : SCH w lo md us ks ro m rest pv) : SCH w lo md us ks ro m ((b, j) :: rest) (some ⟨b, 0, none⟩)
theorem SCH.step {w w' : World} {lo : Nat} {md us : Int} {ks ks' : List Int} {ro ro' : List Nat} {m m' n : Nat} {E : List (Nat × Nat)} {cur : Option Addr} (h : SCH w lo md us ks ro m E cur) (hj : ∀ e ∈ E, e.2 < n) (hk : ∀ j, j < n → ks'.getD j 0 = ks.getD j 0) (hr : ∀ j, j < n → ro'.getD j 0 = ro.getD j 0) (hm : m ≤ m') (hkr : KR w w')
    (hb : ∀ e ∈ E, ∀ cs, At w e.1 41 cs → w'.heap[e.1]? = w.heap[e.1]?) (hmap : ∀ x : Nat, w.heap[x]? = some (Obj.map #[] 0) → w'.heap[x]? = some (Obj.map #[] 0)) : SCH w' lo md us ks' ro' m' E cur := by
  induction h with
  | nil => exact .nil
  | cons b j rest pv ch mb h hr' hm' hlo hne t ih =>
    have e1 := hk j (hj (b, j) (by simp))
    have e2 := hr j (hj (b, j) (by simp))
    refine .cons b j rest pv ch mb ?_ ((hr'.kr hkr).mono hm) (hmap _ hm') hlo hne (ih (fun e he => hj e (by simp [he])) (fun e he => hb e (by simp [he])) )
    rw [e1, e2]
    exact (hb (b, j) (by simp) _ h).trans h
/-- Every object but the cells of type T is as it was. -/
def FM (T : TypeId) (w w' : World) : Prop := w.heap.size ≤ w'.heap.size ∧ ∀ (x : Nat) (o : Obj), w.heap[x]? = some o → (∀ cs, o ≠ .cells cs T (0, 0)) → w'.heap[x]? = some o
theorem FM.at {T t : TypeId} {w w' : World} (h : FM T w w') (ht : t ≠ T) {x : Nat} {cs : Array Value} (hat : At w x t cs) : At w' x t cs := h.2 x _ hat (fun cs' e => by simp only [Obj.cells.injEq] at e; exact ht e.2.1)
theorem FM.map {T : TypeId} {w w' : World} (h : FM T w w') {x : Nat} (hm : w.heap[x]? = some (.map #[] 0)) : w'.heap[x]? = some (.map #[] 0) := h.2 x _ hm (fun cs e => by cases e)
theorem FM.kr {T : TypeId} {w w' : World} (h : FM T w w') (ht : T ≠ 26) : KR w w' := KR.same (fun g cur hg => h.at (fun e => ht e.symm) hg)
theorem FM.own {T t : TypeId} {w w' : World} (h : FM T w w') (ht : t ≠ T) {B sz n : Nat} {v : Value} {xs : List Value} (ho : w.ownsRow B t sz v n xs) : w'.ownsRow B t sz v n xs := ownKeep0 ho (fun g cs _ hat => (h.at ht hat).trans hat.symm)
theorem FM.pq {T : TypeId} {w w' : World} (h : FM T w w') (ht : T ≠ 186) {p : Nat} {cur v : Value} (hp : PQ w p cur v) : PQ w' p cur v := by
  obtain ⟨c, cf, s, sf, cs, hat⟩ := hp
  have e := (h.at (fun e => ht e.symm) hat).trans hat.symm
  exact ⟨(World.cell?_of_block (a := ⟨p, 104, none⟩) e).trans c, (World.frozen?_of_block (a := ⟨p, 104, none⟩) e).trans cf, (World.cell?_of_block (a := ⟨p, 177, none⟩) e).trans s, (World.frozen?_of_block (a := ⟨p, 177, none⟩) e).trans sf, cs, h.at (fun e => ht e.symm) hat⟩
theorem FM.sch {T : TypeId} {w w' : World} (h : FM T w w') (h26 : T ≠ 26) (h41 : T ≠ 41) {lo : Nat} {md us : Int} {ks ks' : List Int} {ro ro' : List Nat} {m n : Nat} {E : List (Nat × Nat)} {cur : Option Addr} (hs : SCH w lo md us ks ro m E cur) (hj : ∀ e ∈ E, e.2 < n) (hk : ∀ j, j < n → ks'.getD j 0 = ks.getD j 0) (hr : ∀ j, j < n → ro'.getD j 0 = ro.getD j 0) : SCH w' lo md us ks' ro' m E cur :=
  hs.step hj hk hr (Nat.le_refl _) (h.kr h26) (fun e _ cs hat => (h.at (fun e => h41 e.symm) hat).trans hat.symm) (fun x hx => h.map hx)
/-- An append to an owned row of type T, behind a block that was made for it. -/
theorem fmApp {T : TypeId} {w w1 : World} {B sz n : Nat} {v : Value} {xs : List Value} (o : Obj) (ho : w.ownsRow B T sz v n xs) (hg : (w.alloc o).grownBy w1 v.ownBlock) : FM T w w1 := by
  refine ⟨by have := hg.size; simp at this; omega, fun x ob hx hne => ?_⟩
  have hlt : x < w.heap.size := (Array.getElem?_eq_some_iff.1 hx).1
  refine (hg.block x (by simp; omega) (fun e => ?_)).trans ((Below.heap_alloc w o x hlt).trans hx)
  obtain ⟨_, ⟨h, _⟩ | ⟨g, cap, cur, h1, _, h3, _⟩⟩ := ho
  · rw [h] at e; cases e
  · rw [h1] at e
    simp only [Value.ownBlock, Option.some.injEq] at e
    rw [e, h3] at hx
    exact hne cur (Option.some.inj hx).symm
theorem w17 {p : Nat} {kd loc : Int} {w : World} {Q : Ending → World → Prop} (h : Calls Tryf.prog 22 #[.pointer (some ⟨p, 0, none⟩), .int .u8 kd, .agg #[il loc]] w Q) (hQ : ∀ e w', Q e w' → ∃ n : Nat, e = .returned (.int .i64 n)) : Calls Tryf.prog 17 #[.pointer (some ⟨p, 0, none⟩), .int .u8 kd, il loc] w Q := by
  have H := Lib.hid h
  have HQ := Lib.hid hQ
  clear h hQ
  go_enter Tryf.func17, Tryf.ntmps17
  go_wp2_with fail
  refine H.out.mono ?_
  intro e w' hq
  obtain ⟨n, rfl⟩ := HQ.out _ _ hq
  have HF := Lib.hid hq
  clear hq
  go_wp2_with fail
  exact HF.out
theorem ownTake {w : World} {B g c : Nat} {e : TypeId} {sz n m : Nat} {xs ys : List Value} (h : w.ownsRow B e sz (.slice (some ⟨g, 0, none⟩) (n + m) c) (n + m) (xs ++ ys)) (hx : xs.length = n * sz) : w.ownsRow B e sz (.slice (some ⟨g, 0, none⟩) n c) n xs := by
  obtain ⟨h0, ⟨h, _⟩ | ⟨g', cap, cur, h1, h2, h3, h4, h5, h6, h7⟩⟩ := h
  · cases h
  · simp only [Value.slice.injEq, Option.some.injEq, Addr.mk.injEq] at h1
    obtain ⟨⟨rfl, _⟩, _, rfl⟩ := h1
    refine ⟨hx, .inr ⟨g, c, cur, rfl, h2, h3, by omega, h5, h6, ?_⟩⟩
    have := congrArg (List.take (n * sz)) h7
    rw [List.take_take, Nat.min_eq_left (Nat.mul_le_mul_right _ (by omega)), List.take_left' hx] at this
    exact this
def stk (E : List (Nat × Nat)) : List Value := (E.map (fun e => Value.int .i64 (e.2 : Int))).reverse
theorem stk_cons (b j : Nat) (E : List (Nat × Nat)) : stk ((b, j) :: E) = stk E ++ [.int .i64 (j : Int)] := by simp [stk]
theorem stk_len (E : List (Nat × Nat)) : (stk E).length = E.length := by simp [stk]
/-- The state ahead of round i: n scopes were pushed. -/
structure ST (w0 : World) (lo B p : Nat) (md us base : Int) (i n ns : Nat) (E : List (Nat × Nat)) (cur : Option Addr) (ro : List Nat) (ks : List Int) (prev : Int) (a : Option Addr) (c : Nat) (xs : List Value) (vs vr vk : Value) (wr : World) : Prop where
  hn : n ≤ i
  hB : B ≤ wr.heap.size ∧ p < B ∧ lo ≤ p ∧ 0 < lo
  pq : PQ wr p (.pointer cur) (.slice a n c)
  own : wr.ownsRow B 188 2 (.slice a n c) n xs
  last : 0 < n → xs[(n - 1) * 2 + 1]? = some (il prev) ∧ prev < base + (i : Int)
  ch : SCH wr lo md us ks ro i E cur
  nsE : ns = E.length
  os : wr.ownsRow B 3 1 vs ns (stk E)
  orr : wr.ownsRow B 3 1 vr n (ro.map (fun (j : Nat) => Value.int .i64 (j : Int)))
  ok : wr.ownsRow B 27 1 vk n (ks.map (Value.int .u8))
  rlen : ro.length = n
  klen : ks.length = n
  jlt : ∀ e ∈ E, e.2 < n
  bp : ∀ e ∈ E, e.1 ≠ p
  dis : ∀ g, vs.ownBlock = some g → vr.ownBlock ≠ some g
  bel : Below lo w0 wr
end PS
end Go.Proofs.YthgcchgpplblbaaFmt
