/- Proved here: the contract of pushScopeForVisitPass. Conditions: the parser's cells, as stated. -/
import Derived.Test.YthgcchgpplblbaaFmtBase
import Derived.WalkKit
import Derived.WalkSpells
import Derived.WalkLawsBesides
import Derived.Lib.Hide
import Derived.Lib.SliceRun
import Derived.Deep.RegionWith
import Derived.OwnWalk
import Derived.Deep.RegionHeld3
import Derived.Deep.RegionLaw
import Derived.Deep.AppendLies
import Derived.StillTactics
import Derived.Laws.OwnMore
namespace Go.Proofs.YthgcchgpplblbaaFmt
open Go.RowKit
set_option linter.unusedSimpArgs false
set_option linter.unusedVariables false

theorem info26 : (Tryf.prog.info? 26).map (fun i => (i.zero, i.size, i.bytes)) = some (some (.pointer none), 1, 8) := by kernel_rfl
theorem ownSet {w : World} {B : Nat} {e : TypeId} {sz : Nat} {v : Value} {n : Nat} {xs : List Value} (h : w.ownsRow B e sz v n xs) {k : Nat} (hne : v.ownBlock ≠ some k) (i : Nat) (u : Value) : (w.setCell ⟨k, i, none⟩ u).ownsRow B e sz v n xs :=
  World.ownsRow.kept (row := some k) h ⟨by simp [World.setCell], by simp [World.setCell], by simp [World.setCell], by simp [World.setCell], fun j _ hj => Below.heap_setCell w ⟨k, i, none⟩ u j (fun e => hj (by rw [e]))⟩ (.inr hne)
/-- The parser's list of scopes (k left, from cell off of block O), its scope, its part. -/
def PP (w : World) (p O off k : Nat) (cur part : Value) : Prop :=
  (∃ a, w.cell? ⟨p, 177, none⟩ = some (.slice a k k) ∧ (0 < k → a = some ⟨O, off, none⟩)) ∧ w.frozen? ⟨p, 177, none⟩ = false ∧ w.cell? ⟨p, 104, none⟩ = some cur ∧ w.frozen? ⟨p, 104, none⟩ = false ∧ w.cell? ⟨p, 105, none⟩ = some part ∧ w.frozen? ⟨p, 105, none⟩ = false
/-- Below B all blocks but p and Q are as they were. -/
def KB (B p Q : Nat) (w w' : World) : Prop := w.heap.size ≤ w'.heap.size ∧ ∀ b, b < B → b ≠ p → b ≠ Q → w'.heap[b]? = w.heap[b]?
def QS (w : World) (B Q n : Nat) (xs : List Value) : Prop := ∃ a c, w.cell? ⟨Q, 1, none⟩ = some (.slice a n c) ∧ w.frozen? ⟨Q, 1, none⟩ = false ∧ w.ownsRow B 26 1 (.slice a n c) n xs
def P0P (B0 B p O off k s : Nat) (part : Value) (w : World) (e : Ending) (w' : World) : Prop :=
  e = .returned (.tuple #[]) ∧ PP w' p O (off + 2) k (.pointer (some ⟨s, 0, none⟩)) part ∧ KB B p p w w' ∧ Below B0 w w'
def P1P (B0 B p Q O off k s n : Nat) (xs : List Value) (w : World) (e : Ending) (w' : World) : Prop :=
  e = .returned (.tuple #[]) ∧ PP w' p O (off + 2) k (.pointer (some ⟨s, 0, none⟩)) (.pointer (some ⟨Q, 0, none⟩)) ∧ QS w' B Q (n + 1) (xs ++ [.pointer (some ⟨s, 0, none⟩)]) ∧ KB B p Q w w' ∧ Below B0 w w'
set_option maxRecDepth 100000 in
set_option maxHeartbeats 4000000 in
theorem push0 (B0 B p O off s k : Nat) (cur : Value) (loc kd : Int) (w : World) (hB0 : B0 ≤ p) (hB : B ≤ w.heap.size) (hp : PP w p O off (k + 1) cur (.pointer none)) (c0 : w.cell? ⟨O, off, none⟩ = some (.pointer (some ⟨s, 0, none⟩))) (c1 : w.cell? ⟨O, off + 1, none⟩ = some (.int .i32 loc)) (ck : w.cell? ⟨s, 15, none⟩ = some (.int .u8 kd)) (hk : k ≤ 100000) (nO : O ≠ p) (ns : s ≠ p) :
    Calls Tryf.prog 20 #[.pointer (some ⟨p, 0, none⟩), .int .u8 kd, .agg #[.int .i32 loc]] w (P0P B0 B p O off k s (.pointer none) w) := by
  obtain ⟨⟨a, h177, ha⟩, f177, h104, f104, h105, f105⟩ := hp
  obtain rfl := ha (by omega)
  have lp : p < w.heap.size := World.block_lt_of_cell? _ _ h177
  have lO : O < w.heap.size := World.block_lt_of_cell? _ _ c0
  have ls : s < w.heap.size := World.block_lt_of_cell? _ _ ck
  have l1 : w.heap.size < w.heap.size + 1 := by omega
  have lp1 : p < w.heap.size + 1 := by omega
  have lO1 : O < w.heap.size + 1 := by omega
  have ls1 : s < w.heap.size + 1 := by omega
  clear ha
  have hsz : B0 ≤ w.heap.size := by omega
  rcases Nat.eq_zero_or_pos k with hk0 | hk0
  · subst hk0
    go_enter Tryf.func20, Tryf.ntmps20
    go_wp2_with fail
    go_end0
    exact ⟨rfl, ⟨⟨some ⟨O, off, none⟩, by simp [go_sem, *], fun h => by first | omega | rfl⟩, by simp [go_sem, *], by simp [go_sem, *], by simp [go_sem, *], by simp [go_sem, *], by simp [go_sem, *]⟩, ⟨by simp; try omega, fun b hb h1 h2 => by rw [Below.heap_alloc _ _ b (by simp; omega), Below.heap_alloc _ _ b (by simp; omega), Below.heap_setCell _ _ _ b (by simpa using h1), Below.heap_setCell _ _ _ b (by simpa using h1)]⟩, ((((Below.refl _ _).setCell (by simpa using hB0) _).setCell (by simpa using hB0) _).alloc (by simpa using hsz) _).alloc (by simp; omega) _⟩
  · have hk1 : ¬ k = 0 := by omega
    go_enter Tryf.func20, Tryf.ntmps20
    go_wp2_with fail
    go_end0
    exact ⟨rfl, ⟨⟨some ⟨O, off + 2, none⟩, by simp [go_sem, *], fun h => by first | omega | rfl⟩, by simp [go_sem, *], by simp [go_sem, *], by simp [go_sem, *], by simp [go_sem, *], by simp [go_sem, *]⟩, ⟨by simp; try omega, fun b hb h1 h2 => by rw [Below.heap_alloc _ _ b (by simp; omega), Below.heap_alloc _ _ b (by simp; omega), Below.heap_setCell _ _ _ b (by simpa using h1), Below.heap_setCell _ _ _ b (by simpa using h1)]⟩, ((((Below.refl _ _).setCell (by simpa using hB0) _).setCell (by simpa using hB0) _).alloc (by simpa using hsz) _).alloc (by simp; omega) _⟩
set_option maxRecDepth 100000 in
set_option maxHeartbeats 4000000 in
theorem push1 (B0 B p Q O off s k n : Nat) (xs : List Value) (cur : Value) (loc kd : Int) (w : World) (hB0 : B0 ≤ p) (hQ0 : B0 ≤ Q) (hpB : p < B) (hQB : Q < B) (hB : B ≤ w.heap.size) (hp : PP w p O off (k + 1) cur (.pointer (some ⟨Q, 0, none⟩))) (hq : QS w B Q n xs) (c0 : w.cell? ⟨O, off, none⟩ = some (.pointer (some ⟨s, 0, none⟩))) (c1 : w.cell? ⟨O, off + 1, none⟩ = some (.int .i32 loc)) (ck : w.cell? ⟨s, 15, none⟩ = some (.int .u8 kd)) (hk : k ≤ 100000) (hn : n ≤ 100000) (nO : O ≠ p) (ns : s ≠ p) (nQ : Q ≠ p) :
    Calls Tryf.prog 20 #[.pointer (some ⟨p, 0, none⟩), .int .u8 kd, .agg #[.int .i32 loc]] w (P1P B0 B p Q O off k s n xs w) := by
  obtain ⟨⟨a, h177, ha⟩, f177, h104, f104, h105, f105⟩ := hp
  obtain rfl := ha (by omega)
  obtain ⟨i0, hi0, hz0, hz1, hz2⟩ := info_parts info26
  obtain ⟨aq, cq, hq1, fq1, hown⟩ := hq
  have HO := Lib.hid hown
  have HL := Lib.hid (World.ownsRow.lt hown)
  have HI := Lib.hid hi0
  have H0 := Lib.hid hz0
  have H1 := Lib.hid hz1
  have H2 := Lib.hid hz2
  clear hown hi0 hz0 hz1 hz2 ha
  have lp : p < w.heap.size := World.block_lt_of_cell? _ _ h177
  have lO : O < w.heap.size := World.block_lt_of_cell? _ _ c0
  have ls : s < w.heap.size := World.block_lt_of_cell? _ _ ck
  have l1 : w.heap.size < w.heap.size + 1 := by omega
  have lp1 : p < w.heap.size + 1 := by omega
  have lO1 : O < w.heap.size + 1 := by omega
  have ls1 : s < w.heap.size + 1 := by omega
  have lQ : Q < w.heap.size := by omega
  have lQ1 : Q < w.heap.size + 1 := by omega
  have HPn := Lib.hid (show (Value.slice aq n cq).ownBlock ≠ some p from fun e => by have := (HL.out _ e).1; omega)
  have HQn := Lib.hid (show (Value.slice aq n cq).ownBlock ≠ some Q from fun e => by have := (HL.out _ e).1; omega)
  rcases Nat.eq_zero_or_pos k with hk0 | hk0
  · subst hk0
    go_enter Tryf.func20, Tryf.ntmps20
    go_wp2_with fail
    obtain ⟨W, hW⟩ : ∃ W, W = (((w.setCell ⟨p, 177, none⟩ (.slice (some ⟨O, off, none⟩) 0 0)).setCell ⟨p, 104, none⟩ (.pointer (some ⟨s, 0, none⟩))).alloc (.cells #[.int .i32 loc] 33)).alloc (.cells #[.pointer (some ⟨s, 0, none⟩), .int .i32 loc] 188) := ⟨_, rfl⟩
    have HO1 := Lib.hid (show W.ownsRow B 26 1 (.slice aq n cq) n xs from by rw [hW]; exact ((ownSet (ownSet HO.out HPn.out _ _) HPn.out _ _).alloc _).alloc _)
    have x177 : W.cell? ⟨p, 177, none⟩ = some (.slice (some ⟨O, off, none⟩) 0 0) := by rw [hW]; simp [go_sem, *]
    have y177 : W.frozen? ⟨p, 177, none⟩ = false := by rw [hW]; simp [go_sem, *]
    have x104 : W.cell? ⟨p, 104, none⟩ = some (.pointer (some ⟨s, 0, none⟩)) := by rw [hW]; simp [go_sem, *]
    have y104 : W.frozen? ⟨p, 104, none⟩ = false := by rw [hW]; simp [go_sem, *]
    have x105 : W.cell? ⟨p, 105, none⟩ = some (.pointer (some ⟨Q, 0, none⟩)) := by rw [hW]; simp [go_sem, *]
    have y105 : W.frozen? ⟨p, 105, none⟩ = false := by rw [hW]; simp [go_sem, *]
    have xq : W.cell? ⟨Q, 1, none⟩ = some (.slice aq n cq) := by rw [hW]; simp [go_sem, *]
    have yq : W.frozen? ⟨Q, 1, none⟩ = false := by rw [hW]; simp [go_sem, *]
    have xo : W.cell? ⟨w.heap.size + 1, 0, none⟩ = some (.pointer (some ⟨s, 0, none⟩)) := by rw [hW]; simp [go_sem, *]
    have SW : w.heap.size + 2 ≤ W.heap.size := by rw [hW]; simp
    have KW := Lib.hid (show ∀ b, b < B → b ≠ p → W.heap[b]? = w.heap[b]? from fun b hb h1 => by rw [hW, Below.heap_alloc _ _ b (by simp; omega), Below.heap_alloc _ _ b (by simp; omega), Below.heap_setCell _ _ _ b (by simpa using h1), Below.heap_setCell _ _ _ b (by simpa using h1)])
    have BW := Lib.hid (show Below B0 w W from by rw [hW]; exact ((((Below.refl _ _).setCell (by simpa using hB0) _).setCell (by simpa using hB0) _).alloc (by simp; omega) _).alloc (by simp; omega) _)
    rw [← hW]
    clear hW h177 h104 f177 f104 h105 f105 hq1 fq1 c0 c1 ck HO
    have lQW : Q < W.heap.size := by omega
    have lpW : p < W.heap.size := by omega
    go_region_law ((refine step_append_lies _ (by rfl) _ _ _ (by rfl) B 26 i0 _ 1 8 Tryf.underlying25 HI.out H0.out H1.out H2.out rfl (by omega) (.slice aq n cq) n xs (by rfl) ((HO1.out.alloc _).drew) ⟨W.heap.size, 0, none⟩ 1 1 [.pointer (some ⟨s, 0, none⟩)] (by rfl) (by rfl) (World.news_of_block (cs := #[.pointer (some ⟨s, 0, none⟩)]) (t := 26) (fr := (0, 0)) (heap_alloc_new W _)) (by simp [Value.oneCell']) (by omega) (by unfold maxLen; omega) (by omega) (by simp; omega) (W.heap.size + 1) (by simp) ?_; intro gg cap w1 hown1 hgrow hat hlt; have s1 : w1.frozen? ⟨Q, 1, none⟩ = false := (by rw [hgrow.frozen_far _ (by simp; try omega) (Ne.symm HQn.out)]; simp [go_sem, *]); have s2 : w1.cell? ⟨Q, 1, none⟩ = some (.slice aq n cq) := (by rw [hgrow.cell_far _ (by simp; try omega) (Ne.symm HQn.out)]; simp [go_sem, *])))
    all_goals
      have hgg : gg ≠ Q ∧ gg ≠ p ∧ B ≤ gg := by
        rcases hat with h | h
        · exact ⟨fun e => HQn.out (by rw [h, e]), fun e => HPn.out (by rw [h, e]), (HL.out _ h).1⟩
        · omega
      obtain ⟨hg1, hg2, hg3⟩ := hgg
      have HO2 := Lib.hid (ownSet hown1 (k := Q) (by simp [Value.ownBlock]; exact hg1) 1 (.slice (some ⟨gg, 0, none⟩) (n + 1) cap))
      have KK := Lib.hid (show KB B p Q w w1 from ⟨by have := hgrow.size; simp at this; omega, fun b hb h1 h2 => by
        rw [hgrow.block b (by simp; omega) (fun e => by have := (HL.out _ e.symm).1; omega)]
        show (W.alloc _).heap[b]? = _
        rw [Below.heap_alloc W _ b (by omega)]
        exact KW.out b hb h1⟩)
      have BB := Lib.hid (show Below B0 w w1 from Below.grown (Below.drew (Below.alloc BW.out (by omega) _)) hgrow (by simp; try omega) (fun k hk => by have := (HL.out k hk).1; omega))
      have z177 : w1.cell? ⟨p, 177, none⟩ = some (.slice (some ⟨O, off, none⟩) 0 0) := by rw [hgrow.cell_far _ (by simp; try omega) (Ne.symm HPn.out)]; simp [go_sem, *]
      have v177 : w1.frozen? ⟨p, 177, none⟩ = false := by rw [hgrow.frozen_far _ (by simp; try omega) (Ne.symm HPn.out)]; simp [go_sem, *]
      have z104 : w1.cell? ⟨p, 104, none⟩ = some (.pointer (some ⟨s, 0, none⟩)) := by rw [hgrow.cell_far _ (by simp; try omega) (Ne.symm HPn.out)]; simp [go_sem, *]
      have v104 : w1.frozen? ⟨p, 104, none⟩ = false := by rw [hgrow.frozen_far _ (by simp; try omega) (Ne.symm HPn.out)]; simp [go_sem, *]
      have z105 : w1.cell? ⟨p, 105, none⟩ = some (.pointer (some ⟨Q, 0, none⟩)) := by rw [hgrow.cell_far _ (by simp; try omega) (Ne.symm HPn.out)]; simp [go_sem, *]
      have v105 : w1.frozen? ⟨p, 105, none⟩ = false := by rw [hgrow.frozen_far _ (by simp; try omega) (Ne.symm HPn.out)]; simp [go_sem, *]
      have nQ' : p ≠ Q := Ne.symm nQ
      clear hown1 hgrow hat x177 y177 x104 y104 x105 y105 xq yq xo HO1
      go_wp2_with fail
      go_end0
      exact ⟨rfl, ⟨⟨some ⟨O, off, none⟩, by simp [go_sem, *], fun h => by first | omega | rfl⟩, by simp [go_sem, *], by simp [go_sem, *], by simp [go_sem, *], by simp [go_sem, *], by simp [go_sem, *]⟩, ⟨some ⟨gg, 0, none⟩, cap, by simp [go_sem, *], by simp [go_sem, *], HO2.out⟩, ⟨by have := KK.out.1; simp; omega, fun b hb h1 h2 => by rw [Below.heap_setCell _ _ _ b (by simpa using h2)]; exact KK.out.2 b hb h1 h2⟩, BB.out.setCell (by simp; omega) _⟩
  · have hk1 : ¬ k = 0 := by omega
    go_enter Tryf.func20, Tryf.ntmps20
    go_wp2_with fail
    obtain ⟨W, hW⟩ : ∃ W, W = (((w.setCell ⟨p, 177, none⟩ (.slice (some ⟨O, off + 2, none⟩) k k)).setCell ⟨p, 104, none⟩ (.pointer (some ⟨s, 0, none⟩))).alloc (.cells #[.int .i32 loc] 33)).alloc (.cells #[.pointer (some ⟨s, 0, none⟩), .int .i32 loc] 188) := ⟨_, rfl⟩
    have HO1 := Lib.hid (show W.ownsRow B 26 1 (.slice aq n cq) n xs from by rw [hW]; exact ((ownSet (ownSet HO.out HPn.out _ _) HPn.out _ _).alloc _).alloc _)
    have x177 : W.cell? ⟨p, 177, none⟩ = some (.slice (some ⟨O, off + 2, none⟩) k k) := by rw [hW]; simp [go_sem, *]
    have y177 : W.frozen? ⟨p, 177, none⟩ = false := by rw [hW]; simp [go_sem, *]
    have x104 : W.cell? ⟨p, 104, none⟩ = some (.pointer (some ⟨s, 0, none⟩)) := by rw [hW]; simp [go_sem, *]
    have y104 : W.frozen? ⟨p, 104, none⟩ = false := by rw [hW]; simp [go_sem, *]
    have x105 : W.cell? ⟨p, 105, none⟩ = some (.pointer (some ⟨Q, 0, none⟩)) := by rw [hW]; simp [go_sem, *]
    have y105 : W.frozen? ⟨p, 105, none⟩ = false := by rw [hW]; simp [go_sem, *]
    have xq : W.cell? ⟨Q, 1, none⟩ = some (.slice aq n cq) := by rw [hW]; simp [go_sem, *]
    have yq : W.frozen? ⟨Q, 1, none⟩ = false := by rw [hW]; simp [go_sem, *]
    have xo : W.cell? ⟨w.heap.size + 1, 0, none⟩ = some (.pointer (some ⟨s, 0, none⟩)) := by rw [hW]; simp [go_sem, *]
    have SW : w.heap.size + 2 ≤ W.heap.size := by rw [hW]; simp
    have KW := Lib.hid (show ∀ b, b < B → b ≠ p → W.heap[b]? = w.heap[b]? from fun b hb h1 => by rw [hW, Below.heap_alloc _ _ b (by simp; omega), Below.heap_alloc _ _ b (by simp; omega), Below.heap_setCell _ _ _ b (by simpa using h1), Below.heap_setCell _ _ _ b (by simpa using h1)])
    have BW := Lib.hid (show Below B0 w W from by rw [hW]; exact ((((Below.refl _ _).setCell (by simpa using hB0) _).setCell (by simpa using hB0) _).alloc (by simp; omega) _).alloc (by simp; omega) _)
    rw [← hW]
    clear hW h177 h104 f177 f104 h105 f105 hq1 fq1 c0 c1 ck HO
    have lQW : Q < W.heap.size := by omega
    have lpW : p < W.heap.size := by omega
    go_region_law ((refine step_append_lies _ (by rfl) _ _ _ (by rfl) B 26 i0 _ 1 8 Tryf.underlying25 HI.out H0.out H1.out H2.out rfl (by omega) (.slice aq n cq) n xs (by rfl) ((HO1.out.alloc _).drew) ⟨W.heap.size, 0, none⟩ 1 1 [.pointer (some ⟨s, 0, none⟩)] (by rfl) (by rfl) (World.news_of_block (cs := #[.pointer (some ⟨s, 0, none⟩)]) (t := 26) (fr := (0, 0)) (heap_alloc_new W _)) (by simp [Value.oneCell']) (by omega) (by unfold maxLen; omega) (by omega) (by simp; omega) (W.heap.size + 1) (by simp) ?_; intro gg cap w1 hown1 hgrow hat hlt; have s1 : w1.frozen? ⟨Q, 1, none⟩ = false := (by rw [hgrow.frozen_far _ (by simp; try omega) (Ne.symm HQn.out)]; simp [go_sem, *]); have s2 : w1.cell? ⟨Q, 1, none⟩ = some (.slice aq n cq) := (by rw [hgrow.cell_far _ (by simp; try omega) (Ne.symm HQn.out)]; simp [go_sem, *])))
    all_goals
      have hgg : gg ≠ Q ∧ gg ≠ p ∧ B ≤ gg := by
        rcases hat with h | h
        · exact ⟨fun e => HQn.out (by rw [h, e]), fun e => HPn.out (by rw [h, e]), (HL.out _ h).1⟩
        · omega
      obtain ⟨hg1, hg2, hg3⟩ := hgg
      have HO2 := Lib.hid (ownSet hown1 (k := Q) (by simp [Value.ownBlock]; exact hg1) 1 (.slice (some ⟨gg, 0, none⟩) (n + 1) cap))
      have KK := Lib.hid (show KB B p Q w w1 from ⟨by have := hgrow.size; simp at this; omega, fun b hb h1 h2 => by
        rw [hgrow.block b (by simp; omega) (fun e => by have := (HL.out _ e.symm).1; omega)]
        show (W.alloc _).heap[b]? = _
        rw [Below.heap_alloc W _ b (by omega)]
        exact KW.out b hb h1⟩)
      have BB := Lib.hid (show Below B0 w w1 from Below.grown (Below.drew (Below.alloc BW.out (by omega) _)) hgrow (by simp; try omega) (fun k hk => by have := (HL.out k hk).1; omega))
      have z177 : w1.cell? ⟨p, 177, none⟩ = some (.slice (some ⟨O, off + 2, none⟩) k k) := by rw [hgrow.cell_far _ (by simp; try omega) (Ne.symm HPn.out)]; simp [go_sem, *]
      have v177 : w1.frozen? ⟨p, 177, none⟩ = false := by rw [hgrow.frozen_far _ (by simp; try omega) (Ne.symm HPn.out)]; simp [go_sem, *]
      have z104 : w1.cell? ⟨p, 104, none⟩ = some (.pointer (some ⟨s, 0, none⟩)) := by rw [hgrow.cell_far _ (by simp; try omega) (Ne.symm HPn.out)]; simp [go_sem, *]
      have v104 : w1.frozen? ⟨p, 104, none⟩ = false := by rw [hgrow.frozen_far _ (by simp; try omega) (Ne.symm HPn.out)]; simp [go_sem, *]
      have z105 : w1.cell? ⟨p, 105, none⟩ = some (.pointer (some ⟨Q, 0, none⟩)) := by rw [hgrow.cell_far _ (by simp; try omega) (Ne.symm HPn.out)]; simp [go_sem, *]
      have v105 : w1.frozen? ⟨p, 105, none⟩ = false := by rw [hgrow.frozen_far _ (by simp; try omega) (Ne.symm HPn.out)]; simp [go_sem, *]
      have nQ' : p ≠ Q := Ne.symm nQ
      clear hown1 hgrow hat x177 y177 x104 y104 x105 y105 xq yq xo HO1
      go_wp2_with fail
      go_end0
      exact ⟨rfl, ⟨⟨some ⟨O, off + 2, none⟩, by simp [go_sem, *], fun h => by first | omega | rfl⟩, by simp [go_sem, *], by simp [go_sem, *], by simp [go_sem, *], by simp [go_sem, *], by simp [go_sem, *]⟩, ⟨some ⟨gg, 0, none⟩, cap, by simp [go_sem, *], by simp [go_sem, *], HO2.out⟩, ⟨by have := KK.out.1; simp; omega, fun b hb h1 h2 => by rw [Below.heap_setCell _ _ _ b (by simpa using h2)]; exact KK.out.2 b hb h1 h2⟩, BB.out.setCell (by simp; omega) _⟩
end Go.Proofs.YthgcchgpplblbaaFmt
