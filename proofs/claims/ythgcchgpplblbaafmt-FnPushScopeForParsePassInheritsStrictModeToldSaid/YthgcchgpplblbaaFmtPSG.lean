/- Proved here: the states of the law's loop between a push and the round's end. Conditions as stated. -/
import Derived.Test.YthgcchgpplblbaaFmtPSF
import Derived.WalkKit
import Derived.WalkSpells
import Derived.WalkLawsBesides
import Derived.Lib.Hide
import Derived.Lib.SliceRun
import Derived.Deep.RegionWith
import Derived.OwnWalk
import Derived.Laws.OwnMore
import Derived.BigRegion
import Derived.Carry
import Derived.Deep.AppendLies
namespace Go.Proofs.YthgcchgpplblbaaFmt
open Go.RowKit
set_option linter.unusedSimpArgs false
set_option linter.unusedVariables false
namespace PS

theorem SCH.lt {w : World} {lo : Nat} {md us : Int} {ks : List Int} {ro : List Nat} {m : Nat} {E : List (Nat × Nat)} {cur : Option Addr} (h : SCH w lo md us ks ro m E cur) : ∀ e ∈ E, e.1 < w.heap.size := by
  induction h with
  | nil => intro e he; cases he
  | cons b j rest pv ch mb hq hr hm hlo hne t ih =>
    intro e he
    rcases List.mem_cons.1 he with rfl | he
    · exact hq.lt
    · exact ih e he
/-- Between the push and the round's end. -/
structure MS (W0 : World) (lo B p : Nat) (md us base : Int) (i n : Nat) (E : List (Nat × Nat)) (cur : Option Addr) (ro : List Nat) (ks : List Int) (kd : Int) (a : Option Addr) (c : Nat) (xs : List Value) (s mb : Nat) (w : World) : Prop where
  hn : n ≤ i
  hi : i < 65536
  hB : B ≤ w.heap.size
  hpB : p < B
  hlo : lo ≤ p
  lo0 : 0 < lo
  pq : PQ w p (.pointer (some ⟨s, 0, none⟩)) (.slice a (n + 1) c)
  own : w.ownsRow B 188 2 (.slice a (n + 1) c) (n + 1) xs
  last : xs[n * 2 + 1]? = some (il (base + (i : Int)))
  sc : At w s 41 (scv (.pointer cur) (.slice none 0 0) mb (topOf us ro E) (topOf md ro E) kd)
  mp : w.heap[mb]? = some (.map #[] 0)
  ch : SCH w lo md us ks ro (i + 1) E cur
  jlt : ∀ e ∈ E, e.2 < n
  bp : ∀ e ∈ E, e.1 ≠ p
  es : ∀ e ∈ E, e.1 ≠ s
  sp : s ≠ p
  slo : lo ≤ s
  bel : Below lo W0 w
theorem MS.start {W0 : World} {lo B p : Nat} {md us base : Int} {i n : Nat} {E : List (Nat × Nat)} {cur : Option Addr} {ro : List Nat} {ks : List Int} {prev kd : Int} {a : Option Addr} {c : Nat} {xs : List Value} {w w' : World} (h : PT lo B p md us base i n E cur ro ks prev a c xs w) (hi : i < 65536) (hb : Below lo W0 w) {e : Ending} (hq : PUD lo B p md us i n E cur ro ks xs (base + (i : Int)) kd w e w') :
    ∃ a' c' mb xs', MS W0 lo B p md us base i n E cur ro ks kd a' c' xs' (w.heap.size + 1 + 1) mb w' := by
  obtain ⟨_, a', c', mb, hpq, hown, hat, hm, hch, _, hbel, hsz⟩ := hq
  have hx := h.own.1
  have lp : p < w.heap.size := World.block_lt_of_cell? _ _ h.pq.c
  have hlo := h.hlo
  refine ⟨a', c', mb, _, h.hn, hi, by have := h.hB; omega, h.hpB, h.hlo, h.lo0, hpq, hown, ?_, hat, hm, hch, h.jlt, h.bp, fun e he => by have := h.ch.lt e he; omega, by omega, by omega, hb.trans hbel⟩
  rw [List.getElem?_append_right (by omega), hx, show n * 2 + 1 - n * 2 = 1 by omega]
  rfl
theorem MS.fm {T : TypeId} {W0 : World} {lo B p : Nat} {md us base : Int} {i n : Nat} {E : List (Nat × Nat)} {cur : Option Addr} {ro : List Nat} {ks : List Int} {kd : Int} {a : Option Addr} {c : Nat} {xs : List Value} {s mb : Nat} {w w' : World} (h : MS W0 lo B p md us base i n E cur ro ks kd a c xs s mb w) (hf : FM T w w') (hb : Below lo W0 w') (h1 : T ≠ 26) (h2 : T ≠ 41) (h3 : T ≠ 186) (h4 : T ≠ 188) : MS W0 lo B p md us base i n E cur ro ks kd a c xs s mb w' :=
  ⟨h.hn, h.hi, Nat.le_trans h.hB hf.1, h.hpB, h.hlo, h.lo0, hf.pq h3 h.pq, hf.own (Ne.symm h4) h.own, h.last, hf.at (Ne.symm h2) h.sc, hf.map h.mp, hf.sch h1 h2 h.ch (n := n) h.jlt (fun _ _ => rfl) (fun _ _ => rfl), h.jlt, h.bp, h.es, h.sp, h.slo, hb⟩
theorem g0Of {W0 w : World} {lo k : Nat} {v : Value} (hb : Below lo W0 w) (h0 : 0 < lo) (hs : 0 < W0.heap.size) (hg : W0.cell? ⟨0, k, none⟩ = some v) : w.cell? ⟨0, k, none⟩ = some v := (World.cell?_of_block (a := ⟨0, k, none⟩) (hb.block 0 h0)).trans hg
theorem getD_snoc_lt {α : Type} {d : α} {xs : List α} {x : α} {j : Nat} (h : j < xs.length) : (xs ++ [x]).getD j d = xs.getD j d := by simp [List.getD, List.getElem?_append_left h]
theorem getD_snoc_at {α : Type} {d : α} {xs : List α} {x : α} {n : Nat} (h : xs.length = n) : (xs ++ [x]).getD n d = x := by subst h; simp [List.getD]
theorem MS.doneN {W0 : World} {lo B p : Nat} {md us base : Int} {i n : Nat} {E : List (Nat × Nat)} {cur : Option Addr} {ro : List Nat} {ks : List Int} {kd : Int} {a : Option Addr} {c : Nat} {xs : List Value} {s mb : Nat} {w : World} (h : MS W0 lo B p md us base i n E cur ro ks kd a c xs s mb w) (root : Nat) (hr : ∀ x, topOf x ro E = smOf x root) (hrl : ro.length = n) (hkl : ks.length = n) (hs0 : 0 < W0.heap.size) (hg0 : W0.cell? ⟨0, 0, none⟩ = some (.int .u32 4294967295)) (hg1 : W0.cell? ⟨0, 1, none⟩ = some (.int .u32 4294967295)) :
    PT lo B p md us base (i + 1) (n + 1) ((s, n) :: E) (some ⟨s, 0, none⟩) (ro ++ [root]) (ks ++ [kd]) (base + (i : Int)) a c xs w := by
  refine ⟨by have := h.hn; omega, by have := h.hi; omega, h.hB, h.hpB, h.hlo, h.lo0, h.pq, h.own, fun _ => ⟨?_, by push_cast; omega⟩, ?_, fun e he => ?_, fun e he => ?_, g0Of h.bel h.lo0 hs0 hg0, g0Of h.bel h.lo0 hs0 hg1⟩
  · rw [show n + 1 - 1 = n by omega]; exact h.last
  · refine .cons s n E cur (.slice none 0 0) mb ?_ ⟨none, 0, 0, rfl, Nat.zero_le _, .inl ⟨rfl, rfl, rfl⟩⟩ h.mp h.slo h.es ?_
    · rw [getD_snoc_at hrl, getD_snoc_at hkl, ← hr, ← hr]
      exact h.sc
    · exact h.ch.step (n := n) h.jlt (fun j hj => getD_snoc_lt (by omega)) (fun j hj => getD_snoc_lt (by omega)) (Nat.le_refl _) (KR.refl w) (fun _ _ _ _ => rfl) (fun _ hx => hx)
  · rcases List.mem_cons.1 he with rfl | he
    · simp
    · have := h.jlt e he; omega
  · rcases List.mem_cons.1 he with rfl | he
    · exact h.sp
    · exact h.bp e he
/-- The first scope: its strict mode is set by hand. -/
theorem MS.done0 {W0 : World} {lo B p : Nat} {md us base : Int} {i : Nat} {cur : Option Addr} {kd : Int} {a : Option Addr} {c : Nat} {xs : List Value} {s mb : Nat} {w : World} (h : MS W0 lo B p md us base i 0 [] cur [] [] kd a c xs s mb w) (hs0 : 0 < W0.heap.size) (hg0 : W0.cell? ⟨0, 0, none⟩ = some (.int .u32 4294967295)) (hg1 : W0.cell? ⟨0, 1, none⟩ = some (.int .u32 4294967295)) :
    PT lo B p md us base (i + 1) 1 [(s, 0)] (some ⟨s, 0, none⟩) [0] [kd] (base + (i : Int)) a c xs ((w.setCell ⟨s, 14, none⟩ (.int .u8 md)).setCell ⟨s, 6, none⟩ (il us)) ∧ Below lo W0 ((w.setCell ⟨s, 14, none⟩ (.int .u8 md)).setCell ⟨s, 6, none⟩ (il us)) := by
  have hb : ∀ x, x ≠ s → ((w.setCell ⟨s, 14, none⟩ (.int .u8 md)).setCell ⟨s, 6, none⟩ (il us)).heap[x]? = w.heap[x]? := fun x hx => by rw [Below.heap_setCell _ _ _ x (by simpa using hx), Below.heap_setCell _ _ _ x (by simpa using hx)]
  have hbel : Below lo W0 ((w.setCell ⟨s, 14, none⟩ (.int .u8 md)).setCell ⟨s, 6, none⟩ (il us)) := (h.bel.setCell (by have := h.slo; simpa using this) _).setCell (by have := h.slo; simpa using this) _
  have ep := hb p (Ne.symm h.sp)
  refine ⟨⟨by have := h.hn; omega, by have := h.hi; omega, by have := h.hB; simpa [World.setCell] using this, h.hpB, h.hlo, h.lo0, ?_, ?_, fun _ => ⟨h.last, by push_cast; omega⟩, ?_, fun e he => ?_, fun e he => ?_, g0Of hbel h.lo0 hs0 hg0, g0Of hbel h.lo0 hs0 hg1⟩, hbel⟩
  · obtain ⟨q1, q2, q3, q4, cs, q5⟩ := h.pq
    exact ⟨(World.cell?_of_block (a := ⟨p, 104, none⟩) ep).trans q1, (World.frozen?_of_block (a := ⟨p, 104, none⟩) ep).trans q2, (World.cell?_of_block (a := ⟨p, 177, none⟩) ep).trans q3, (World.frozen?_of_block (a := ⟨p, 177, none⟩) ep).trans q4, cs, ep.trans q5⟩
  · exact ownKeep0 h.own (fun g cs hg hat => hb g (fun e => by subst e; exact ownTy h.own h.sc (by decide) hg))
  · have hch := h.ch
    cases hch
    refine .cons s 0 [] none (.slice none 0 0) mb ?_ ⟨none, 0, 0, rfl, Nat.zero_le _, .inl ⟨rfl, rfl, rfl⟩⟩ ((hb mb (atMap h.sc h.mp)).trans h.mp) h.slo (fun e he => by cases he) .nil
    exact (h.sc.set 14 _).set 6 _
  · simp at he; subst he; simp
  · simp at he; subst he; exact h.sp
/-- The three rows of ints. -/
structure IT (B : Nat) (E : List (Nat × Nat)) (ro : List Nat) (ks : List Int) (vs vr vk : Value) (w : World) : Prop where
  os : w.ownsRow B 3 1 vs E.length (stk E)
  orr : w.ownsRow B 3 1 vr ro.length (ro.map (fun (j : Nat) => Value.int .i64 (j : Int)))
  ok : w.ownsRow B 27 1 vk ks.length (ks.map (Value.int .u8))
  dis : ∀ g, vs.ownBlock = some g → vr.ownBlock ≠ some g
theorem IT.keep {B : Nat} {E : List (Nat × Nat)} {ro : List Nat} {ks : List Int} {vs vr vk : Value} {w w' : World} (h : IT B E ro ks vs vr vk w) (hk : ∀ x t cs, At w x t cs → t ≠ 186 → t ≠ 41 → t ≠ 188 → t ≠ 26 → At w' x t cs) : IT B E ro ks vs vr vk w' :=
  ⟨ownKeep0 h.os (fun g cs _ hat => (hk g 3 cs hat (by decide) (by decide) (by decide) (by decide)).trans hat.symm), ownKeep0 h.orr (fun g cs _ hat => (hk g 3 cs hat (by decide) (by decide) (by decide) (by decide)).trans hat.symm), ownKeep0 h.ok (fun g cs _ hat => (hk g 27 cs hat (by decide) (by decide) (by decide) (by decide)).trans hat.symm), h.dis⟩
theorem own327 {w : World} {B n m : Nat} {v v' : Value} {xs ys : List Value} {t t' : TypeId} (h : w.ownsRow B t 1 v n xs) (h' : w.ownsRow B t' 1 v' m ys) (ht : t ≠ t') : v.ownBlock = none ∨ v.ownBlock ≠ v'.ownBlock := by
  obtain ⟨_, ⟨h, _⟩ | ⟨g, cap, cur, h1, _, h3, _⟩⟩ := h
  · left; rw [h]; rfl
  · right
    obtain ⟨_, ⟨h, _⟩ | ⟨g', cap', cur', h1', _, h3', _⟩⟩ := h'
    · rw [h, h1]; simp [Value.ownBlock]
    · rw [h1, h1']
      simp only [Value.ownBlock, ne_eq, Option.some.injEq]
      exact atNe h3 h3' ht
theorem disOpt {v v' : Value} (h : ∀ g, v.ownBlock = some g → v'.ownBlock ≠ some g) : v.ownBlock = none ∨ v.ownBlock ≠ v'.ownBlock := by
  cases e : v.ownBlock with
  | none => exact .inl rfl
  | some g => exact .inr (fun e' => h g e e'.symm)
theorem IT.root {B : Nat} {E : List (Nat × Nat)} {ro : List Nat} {ks : List Int} {vs vr vk : Value} {w w1 : World} {g cap root n : Nat} (hn : ro.length = n) (o : Obj) (h : IT B E ro ks vs vr vk w) (hown : w1.ownsRow B 3 1 (.slice (some ⟨g, 0, none⟩) (n + 1) cap) (n + 1) (ro.map (fun (j : Nat) => Value.int .i64 (j : Int)) ++ [.int .i64 (root : Int)])) (hg : (w.alloc o).grownBy w1 vr.ownBlock) (hl : vr.ownBlock = some g ∨ g = w.heap.size + 1) :
    IT B E (ro ++ [root]) ks vs (.slice (some ⟨g, 0, none⟩) (n + 1) cap) vk w1 := by
  subst hn
  refine ⟨(h.os.alloc o).kept hg (disOpt h.dis), by simpa using hown, (h.ok.alloc o).kept hg (own327 h.ok h.orr (by decide)), fun g' hg' e => ?_⟩
  simp only [Value.ownBlock, Option.some.injEq] at e
  subst e
  rcases hl with hl | hl
  · exact h.dis _ hg' hl
  · have := (World.ownsRow.lt h.os _ hg').2; omega
theorem IT.kinds {B : Nat} {E : List (Nat × Nat)} {ro : List Nat} {ks : List Int} {vs vr vk : Value} {w w1 : World} {g cap n : Nat} {kd : Int} (hn : ks.length = n) (o : Obj) (h : IT B E ro ks vs vr vk w) (hown : w1.ownsRow B 27 1 (.slice (some ⟨g, 0, none⟩) (n + 1) cap) (n + 1) (ks.map (Value.int .u8) ++ [.int .u8 kd])) (hg : (w.alloc o).grownBy w1 vk.ownBlock) :
    IT B E ro (ks ++ [kd]) vs vr (.slice (some ⟨g, 0, none⟩) (n + 1) cap) w1 := by
  subst hn
  exact ⟨(h.os.alloc o).kept hg (own327 h.os h.ok (by decide)), (h.orr.alloc o).kept hg (own327 h.orr h.ok (by decide)), by simpa using hown, h.dis⟩
theorem IT.stack {B : Nat} {E : List (Nat × Nat)} {ro : List Nat} {ks : List Int} {vs vr vk : Value} {w w1 : World} {g cap s n ns : Nat} (hn : E.length = ns) (o : Obj) (h : IT B E ro ks vs vr vk w) (hown : w1.ownsRow B 3 1 (.slice (some ⟨g, 0, none⟩) (ns + 1) cap) (ns + 1) (stk E ++ [.int .i64 (n : Int)])) (hg : (w.alloc o).grownBy w1 vs.ownBlock) (hl : vs.ownBlock = some g ∨ g = w.heap.size + 1) :
    IT B ((s, n) :: E) ro ks (.slice (some ⟨g, 0, none⟩) (ns + 1) cap) vr vk w1 := by
  subst hn
  refine ⟨by rw [stk_cons]; simpa using hown, (h.orr.alloc o).kept hg ?_, (h.ok.alloc o).kept hg (own327 h.ok h.os (by decide)), fun g' hg' e => ?_⟩
  · cases e : vr.ownBlock with
    | none => exact .inl rfl
    | some g' => exact .inr (fun e' => h.dis g' e'.symm e)
  · simp only [Value.ownBlock, Option.some.injEq] at hg'
    subst hg'
    rcases hl with hl | hl
    · exact h.dis _ hl e
    · have := (World.ownsRow.lt h.orr _ e).2; omega
theorem IT.pop {B Q j : Nat} {rest : List (Nat × Nat)} {ro : List Nat} {ks : List Int} {vr vk : Value} {w : World} {g c m ns : Nat} (hm : rest.length = m) (hns : ns = m + 1) (h : IT B ((Q, j) :: rest) ro ks (.slice (some ⟨g, 0, none⟩) ns c) vr vk w) : IT B rest ro ks (.slice (some ⟨g, 0, none⟩) m c) vr vk w := by
  subst hm hns
  have h1 := h.os
  rw [stk_cons] at h1
  exact ⟨ownTake (m := 1) (ys := [.int .i64 (j : Int)]) h1 (by rw [stk_len]; omega), h.orr, h.ok, h.dis⟩
theorem IT.stay {B : Nat} {E : List (Nat × Nat)} {ro : List Nat} {ks : List Int} {vs vr vk : Value} {w w' : World} (h : IT B E ro ks vs vr vk w) (b t : Nat) (cs : Array Value) (hat : At w b t cs) (h3 : t ≠ 3) (h27 : t ≠ 27) (hk : ∀ x, x ≠ b → w'.heap[x]? = w.heap[x]?) : IT B E ro ks vs vr vk w' :=
  ⟨ownKeep0 h.os (fun g cs' _ hat' => hk g (atNe hat' hat (Ne.symm h3))), ownKeep0 h.orr (fun g cs' _ hat' => hk g (atNe hat' hat (Ne.symm h3))), ownKeep0 h.ok (fun g cs' _ hat' => hk g (atNe hat' hat (Ne.symm h27))), h.dis⟩
theorem belApp {lo B : Nat} {W0 w w1 : World} {t : TypeId} {n : Nat} {v : Value} {xs : List Value} (o : Obj) (hb : Below lo W0 w) (hl : lo ≤ B) (ho : w.ownsRow B t 1 v n xs) (hg : (w.alloc o).grownBy w1 v.ownBlock) (hs : lo ≤ w.heap.size) : Below lo W0 w1 :=
  Below.grown (hb.alloc hs o) hg (by simp; omega) (fun x hx => by have := (World.ownsRow.lt ho x hx).1; omega)

theorem IT.top {B Q j : Nat} {rest : List (Nat × Nat)} {ro : List Nat} {ks : List Int} {sa : Option Addr} {sc ns : Nat} {vr vk : Value} {w : World} (h : IT B ((Q, j) :: rest) ro ks (.slice sa ns sc) vr vk w) (hns : ns = rest.length + 1) : ∃ g, sa = some ⟨g, 0, none⟩ ∧ B ≤ g ∧ g < w.heap.size ∧ ns ≤ sc ∧ w.cell? ⟨g, rest.length, none⟩ = some (.int .i64 (j : Int)) := by
  have hos := h.os
  rw [List.length_cons, ← hns] at hos
  have hos' := hos
  obtain ⟨_, ⟨_, e⟩ | ⟨g, cap, cur, h1, h2, h3, h4, _⟩⟩ := hos'
  · omega
  · simp only [Value.slice.injEq] at h1
    obtain ⟨rfl, _, rfl⟩ := h1
    refine ⟨g, rfl, h2, (show At w g 3 cur from h3).lt, h4, ?_⟩
    rw [World.ownsRow.cellAt hos _ (by omega), stk_cons, List.getElem?_append_right (by rw [stk_len]; omega), stk_len, Nat.sub_self]
    rfl
theorem IT.kat {B n j : Nat} {E : List (Nat × Nat)} {ro : List Nat} {ks : List Int} {ka : Option Addr} {kc : Nat} {vs vr : Value} {w : World} (h : IT B E ro ks vs vr (.slice ka n kc) w) (hn : ks.length = n) (hj : j < n) : ∃ g, ka = some ⟨g, 0, none⟩ ∧ g < w.heap.size ∧ n ≤ kc ∧ w.cell? ⟨g, j, none⟩ = some (.int .u8 (ks.getD j 0)) := by
  subst hn
  have hos := h.ok
  have hos' := hos
  obtain ⟨_, ⟨_, e⟩ | ⟨g, cap, cur, h1, h2, h3, h4, _⟩⟩ := hos'
  · omega
  · simp only [Value.slice.injEq] at h1
    obtain ⟨rfl, _, rfl⟩ := h1
    refine ⟨g, rfl, (show At w g 27 cur from h3).lt, h4, ?_⟩
    rw [World.ownsRow.cellAt hos _ (by omega)]
    simp [List.getD, hj]
theorem IT.rat {B n j : Nat} {E : List (Nat × Nat)} {ro : List Nat} {ks : List Int} {ra : Option Addr} {rc : Nat} {vs vk : Value} {w : World} (h : IT B E ro ks vs (.slice ra n rc) vk w) (hn : ro.length = n) (hj : j < n) : ∃ g, ra = some ⟨g, 0, none⟩ ∧ g < w.heap.size ∧ n ≤ rc ∧ w.cell? ⟨g, j, none⟩ = some (.int .i64 ((ro.getD j 0 : Nat) : Int)) := by
  subst hn
  have hos := h.orr
  have hos' := hos
  obtain ⟨_, ⟨_, e⟩ | ⟨g, cap, cur, h1, h2, h3, h4, _⟩⟩ := hos'
  · omega
  · simp only [Value.slice.injEq] at h1
    obtain ⟨rfl, _, rfl⟩ := h1
    refine ⟨g, rfl, (show At w g 3 cur from h3).lt, h4, ?_⟩
    rw [World.ownsRow.cellAt hos _ (by omega)]
    simp [List.getD, hj]
end PS
end Go.Proofs.YthgcchgpplblbaaFmt
