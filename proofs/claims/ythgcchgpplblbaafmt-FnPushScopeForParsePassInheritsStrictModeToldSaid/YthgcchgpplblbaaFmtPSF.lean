/- Proved here: the push of any kind and the pop, from the loop's state. Conditions as stated. -/
import Derived.Test.YthgcchgpplblbaaFmtPSE
import Derived.WalkKit
import Derived.WalkSpells
import Derived.WalkLawsBesides
import Derived.Lib.Hide
import Derived.Lib.SliceRun
import Derived.Deep.RegionWith
import Derived.OwnWalk
import Derived.Laws.OwnMore
import Derived.BigRegion
import Derived.Carry
namespace Go.Proofs.YthgcchgpplblbaaFmt
open Go.RowKit
set_option linter.unusedSimpArgs false
set_option linter.unusedVariables false
namespace PS

/-- The parser's part of the loop's state: n scopes were pushed, E is the stack of the open ones, the top first. -/
structure PT (lo B p : Nat) (md us base : Int) (i n : Nat) (E : List (Nat × Nat)) (cur : Option Addr) (ro : List Nat) (ks : List Int) (prev : Int) (a : Option Addr) (c : Nat) (xs : List Value) (w : World) : Prop where
  hn : n ≤ i
  hi : i ≤ 65536
  hB : B ≤ w.heap.size
  hpB : p < B
  hlo : lo ≤ p
  lo0 : 0 < lo
  pq : PQ w p (.pointer cur) (.slice a n c)
  own : w.ownsRow B 188 2 (.slice a n c) n xs
  last : 0 < n → xs[(n - 1) * 2 + 1]? = some (il prev) ∧ prev < base + (i : Int)
  ch : SCH w lo md us ks ro i E cur
  jlt : ∀ e ∈ E, e.2 < n
  bp : ∀ e ∈ E, e.1 ≠ p
  g0 : w.cell? ⟨0, 0, none⟩ = some (.int .u32 4294967295)
  g1 : w.cell? ⟨0, 1, none⟩ = some (.int .u32 4294967295)
def topOf (md : Int) (ro : List Nat) : List (Nat × Nat) → Int
  | [] => 0
  | e :: _ => smOf md (ro.getD e.2 0)
/-- What a push leaves. -/
def PUD (lo B p : Nat) (md us : Int) (i n : Nat) (E : List (Nat × Nat)) (cur : Option Addr) (ro : List Nat) (ks : List Int) (xs : List Value) (loc kd : Int) (w : World) (e : Ending) (w' : World) : Prop :=
  e = .returned (.int .i64 n) ∧ ∃ a' c' mb, PQ w' p (.pointer (some ⟨w.heap.size + 1 + 1, 0, none⟩)) (.slice a' (n + 1) c') ∧ w'.ownsRow B 188 2 (.slice a' (n + 1) c') (n + 1) (xs ++ [.pointer (some ⟨w.heap.size + 1 + 1, 0, none⟩), il loc]) ∧
    At w' (w.heap.size + 1 + 1) 41 (scv (.pointer cur) (.slice none 0 0) mb (topOf us ro E) (topOf md ro E) kd) ∧ w'.heap[mb]? = some (.map #[] 0) ∧ SCH w' lo md us ks ro (i + 1) E cur ∧
    (∀ x t cs, At w x t cs → t ≠ 186 → t ≠ 41 → t ≠ 188 → t ≠ 26 → At w' x t cs) ∧ Below lo w w' ∧ w.heap.size + 2 < w'.heap.size
theorem PUD.frame {lo B p : Nat} {md us : Int} {i n : Nat} {E : List (Nat × Nat)} {cur : Option Addr} {ro : List Nat} {ks : List Int} {xs : List Value} {loc kd : Int} {w : World} {e : Ending} {w' : World} (h : PUD lo B p md us i n E cur ro ks xs loc kd w e w') : ∀ x t cs, At w x t cs → t ≠ 186 → t ≠ 41 → t ≠ 188 → t ≠ 26 → At w' x t cs := by
  obtain ⟨_, _, _, _, _, _, _, _, _, h, _⟩ := h
  exact h
theorem ownTy {w : World} {B n : Nat} {v : Value} {xs : List Value} (ho : w.ownsRow B 188 2 v n xs) {x t : Nat} {cs : Array Value} (hat : At w x t cs) (ht : t ≠ 188) : v.ownBlock ≠ some x := fun e => by
  obtain ⟨_, ⟨h, _⟩ | ⟨g, cap, cur, h1, _, h3, _⟩⟩ := ho
  · rw [h] at e; cases e
  · rw [h1] at e
    simp only [Value.ownBlock, Option.some.injEq] at e
    exact atNe hat h3 ht e.symm
theorem ownMap {w : World} {B n : Nat} {v : Value} {xs : List Value} (ho : w.ownsRow B 188 2 v n xs) {x : Nat} (hm : w.heap[x]? = some (.map #[] 0)) : v.ownBlock ≠ some x := fun e => by
  obtain ⟨_, ⟨h, _⟩ | ⟨g, cap, cur, h1, _, h3, _⟩⟩ := ho
  · rw [h] at e; cases e
  · rw [h1] at e
    simp only [Value.ownBlock, Option.some.injEq] at e
    rw [e, hm] at h3
    cases h3
theorem PQ.neMap {w : World} {p : Nat} {cur v : Value} (h : PQ w p cur v) {x : Nat} (hm : w.heap[x]? = some (.map #[] 0)) : x ≠ p := fun e => by
  obtain ⟨cs, h'⟩ := h.ty
  unfold At at h'
  rw [← e, hm] at h'
  cases h'
theorem PQ.neTy {w : World} {p : Nat} {cur v : Value} (h : PQ w p cur v) {x t : Nat} {cs : Array Value} (hat : At w x t cs) (ht : t ≠ 186) : x ≠ p := by
  obtain ⟨cs', h'⟩ := h.ty
  exact atNe hat h' ht
theorem atMap {w : World} {x y t : Nat} {cs : Array Value} (hat : At w y t cs) (hm : w.heap[x]? = some (.map #[] 0)) : x ≠ y := fun e => by
  unfold At at hat
  rw [← e, hm] at hat
  cases hat
/-- The tail of the stack behind a push under its top. -/
theorem SCH.under {w w' : World} {lo p n n0 Q : Nat} {md us : Int} {ks : List Int} {ro : List Nat} {m m' : Nat} {E : List (Nat × Nat)} {cur : Option Addr} {B : Nat} {v cu : Value} {xs : List Value} (h : SCH w lo md us ks ro m E cur) (hj : ∀ e ∈ E, e.2 < n) (hp : PQ w p cu v) (ho : w.ownsRow B 188 2 v n0 xs) (hq : ∃ cs, At w Q 41 cs) (hne : ∀ e ∈ E, e.1 ≠ Q) (hbp : ∀ e ∈ E, e.1 ≠ p) (hm : m ≤ m') (hkr : KR w w')
    (hk : ∀ x, x < w.heap.size → x ≠ p → x ≠ Q → v.ownBlock ≠ some x → (∀ cs, ¬ At w x 26 cs) → w'.heap[x]? = w.heap[x]?) : SCH w' lo md us ks ro m' E cur := by
  obtain ⟨cq, hq⟩ := hq
  refine h.step (n := n) hj (fun _ _ => rfl) (fun _ _ => rfl) hm hkr (fun e he cs hat => hk _ hat.lt (hbp e he) (hne e he) (ownTy ho hat (by decide)) (fun cs' h' => atNe hat h' (by decide) rfl)) (fun x hx => (hk x (Array.getElem?_eq_some_iff.1 hx).1 (hp.neMap hx) (atMap hq hx) (ownMap ho hx) (fun cs h' => atMap h' hx rfl)).trans hx)
theorem pushAny (lo B p : Nat) (md us base : Int) (i n : Nat) (E : List (Nat × Nat)) (cur : Option Addr) (ro : List Nat) (ks : List Int) (prev : Int) (a : Option Addr) (c : Nat) (xs : List Value) (w : World) (h : PT lo B p md us base i n E cur ro ks prev a c xs w) (kd : Int) (hloc : -2147483648 ≤ base + (i : Int) ∧ base + (i : Int) ≤ 2147483647) (h8 : kd = 8 → ∃ e rest, E = e :: rest ∧ ks.getD e.2 0 = 7) :
    Calls Tryf.prog 17 #[.pointer (some ⟨p, 0, none⟩), .int .u8 kd, il (base + (i : Int))] w (PUD lo B p md us i n E cur ro ks xs (base + (i : Int)) kd w) := by
  refine w17 ?_ (fun e w' hq => ⟨n, hq.1⟩)
  have hn := h.hn
  have hi := h.hi
  have hlo := h.hlo
  have lo0 := h.lo0
  have lp : p < w.heap.size := World.block_lt_of_cell? _ _ h.pq.c
  have hch := h.ch
  cases hch with
  | nil =>
    have hk8 : (kd == 8) = false := by
      rw [beq_eq_false_iff_ne]
      intro e
      obtain ⟨_, _, e', _⟩ := h8 e
      cases e'
    refine (push0 B p n c a xs (base + (i : Int)) prev kd w (by omega) h.hB h.hpB h.pq h.own h.last hk8 h.g0 h.g1 (by omega) hloc).mono ?_
    rintro e w' ⟨rfl, ⟨a', c', hpq, hown⟩, hat, hm, hpf, hbel⟩
    refine ⟨rfl, a', c', w.heap.size + 1, hpq, hown, hat, hm, .nil, fun x t cs hx h1 _ h3 _ => (hpf.blk x hx.lt (h.pq.neTy hx h1) (ownTy h.own hx h3)).trans hx, hbel lo hlo, ?_⟩
    have := hat.lt
    omega
  | cons Q j rest pv ch mb hq hr hmq hlq hne t =>
    have hbp : Q ≠ p := h.bp (Q, j) (by simp)
    have hnp : 0 < n := by have := h.jlt (Q, j) (by simp); simp at this; omega
    have fin : ∀ e w', P1P lo B p n Q (.pointer pv) mb (smOf us (ro.getD j 0)) (smOf md (ro.getD j 0)) (ks.getD j 0) i xs (base + (i : Int)) kd a c w e w' → PUD lo B p md us i n ((Q, j) :: rest) (some ⟨Q, 0, none⟩) ro ks xs (base + (i : Int)) kd w e w' := by
      rintro e w' ⟨rfl, ⟨a', c', hpq, hown⟩, hat, hm, ⟨ch', hq', hrow'⟩, hkr, hsz, hk, hbel⟩
      refine ⟨rfl, a', c', w.heap.size + 1, hpq, hown, hat, hm, ?_, fun x t cs hx h1 h2 h3 h4 => (hk x hx.lt (h.pq.neTy hx h1) (fun e => atNe hx hq h2 e) (ownTy h.own hx h3) (fun cs' h' => atNe hx h' h4 rfl)).trans hx, hbel lo hlo hlq (Nat.le_refl _), ?_⟩
      · exact .cons Q j rest pv ch' mb hq' hrow' ((hk mb (Array.getElem?_eq_some_iff.1 hmq).1 (h.pq.neMap hmq) (atMap hq hmq) (ownMap h.own hmq) (fun cs h' => atMap h' hmq rfl)).trans hmq) hlq hne (t.under (n := n) (fun e he => h.jlt e (by simp [he])) h.pq h.own ⟨_, hq⟩ hne (fun e he => h.bp e (by simp [he])) (by omega) hkr hk)
      · have := hat.lt
        omega
    by_cases e8 : kd = 8
    · obtain ⟨e, r, ee, e7⟩ := h8 e8
      simp only [List.cons.injEq] at ee
      obtain ⟨rfl, rfl⟩ := ee
      simp only at e7
      rw [e7] at hq fin
      subst e8
      exact (push8 lo B p n c Q mb i (.pointer pv) ch _ _ a xs (base + (i : Int)) prev w (by omega) hnp (by omega) h.hB h.hpB h.pq hq hbp (by omega) hr h.own (h.last hnp) hmq h.g0 h.g1 (by omega) (by omega) hloc).mono fin
    · exact (push1 lo B p n c Q mb i (.pointer pv) ch _ _ _ a xs (base + (i : Int)) prev kd w (by omega) hnp (by omega) h.hB h.hpB h.pq hq hbp (by omega) hr h.own (h.last hnp) (by simpa using e8) h.g0 h.g1 (by omega) (by omega) hloc).mono fin
/-- The pop. -/
theorem popAny (lo B p : Nat) (md us base : Int) (i n Q j : Nat) (rest : List (Nat × Nat)) (cur : Option Addr) (ro : List Nat) (ks : List Int) (prev : Int) (a : Option Addr) (c : Nat) (xs : List Value) (w : World) (h : PT lo B p md us base i n ((Q, j) :: rest) cur ro ks prev a c xs w) (hi : i < 65536) :
    Calls Tryf.prog 16 #[.pointer (some ⟨p, 0, none⟩)] w fun e w' => e = .returned (.tuple #[]) ∧ ∃ pv, w' = w.setCell ⟨p, 104, none⟩ (.pointer pv) ∧ PT lo B p md us base (i + 1) n rest pv ro ks prev a c xs w' := by
  have hch := h.ch
  cases hch with
  | cons _ _ _ pv ch mb hq hr hmq hlq hne t =>
    have hbp : Q ≠ p := h.bp (Q, j) (by simp)
    refine (pop p Q mb pv ch _ _ _ _ w h.pq hq).mono ?_
    rintro e w' ⟨rfl, rfl⟩
    have l0 := World.block_lt_of_cell? _ _ h.g0
    have lp : p < w.heap.size := World.block_lt_of_cell? _ _ h.pq.c
    have hp0 : 0 ≠ p := by have := h.hlo; have := h.lo0; omega
    have hb : ∀ x, x ≠ p → (w.setCell ⟨p, 104, none⟩ (.pointer pv)).heap[x]? = w.heap[x]? := fun x hx => Below.heap_setCell _ _ _ x (by simpa using hx)
    have hat26 : ∀ g cur, At w g 26 cur → g ≠ p := fun g cur hg => h.pq.neTy hg (by decide)
    have ne : (⟨p, 104, none⟩ : Addr) ≠ ⟨p, 177, none⟩ := by intro e; injection e with _ e2 _; omega
    have hcx := h.pq.c
    have hfx := h.pq.cf
    have hsx := h.pq.s
    have hsf := h.pq.sf
    refine ⟨rfl, pv, rfl, ⟨by have := h.hn; omega, by omega, by have := h.hB; simpa [World.setCell] using this, h.hpB, h.hlo, h.lo0, ?_, ?_, fun hn => ⟨(h.last hn).1, by have := (h.last hn).2; push_cast; omega⟩, ?_, fun e he => h.jlt e (by simp [he]), fun e he => h.bp e (by simp [he]), ?_, ?_⟩⟩
    · obtain ⟨cs, hty⟩ := h.pq.ty
      exact ⟨by simp [go_sem, *], by simp [go_sem, *], by simp [go_sem, *], by simp [go_sem, *], _, hty.set 104 _⟩
    · exact ownKeep0 h.own (fun g cs hg _ => hb g (fun e => by have := (World.ownsRow.lt h.own g hg).1; have := h.hpB; omega))
    · exact t.step (n := n) (fun e he => h.jlt e (by simp [he])) (fun _ _ => rfl) (fun _ _ => rfl) (by omega) (KR.same (fun g cur hg => (hb g (hat26 g cur hg)).trans hg)) (fun e he cs hat => hb _ (h.bp e (by simp [he]))) (fun x hx => (hb x (h.pq.neMap hx)).trans hx)
    · exact (World.cell?_of_block (a := ⟨0, 0, none⟩) (hb 0 hp0)).trans h.g0
    · exact (World.cell?_of_block (a := ⟨0, 1, none⟩) (hb 0 hp0)).trans h.g1
end PS
end Go.Proofs.YthgcchgpplblbaaFmt
