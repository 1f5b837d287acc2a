/- Proved here: the contracts of the new parser, of newSymbol on an empty table and of newPrivateSymbol. Conditions: the two cells of the variable, the parser's cells, as stated. -/
import Derived.Test.YtjnffbnipjkibaaDoorBase
import Derived.WalkKit
import Derived.WalkSpells
import Derived.WalkLawsBesides
import Derived.Lib.Hide
import Derived.Lib.SliceRun
import Derived.Deep.RegionWith
import Derived.OwnWalk
import Derived.Laws.OwnMore
import Derived.Deep.RegionLaw
import Derived.Deep.AppendLies
import Derived.Deep.DeepCutAuto
import Derived.Carry
namespace Go.Proofs.YtjnffbnipjkibaaDoor
open Go.RowKit
set_option linter.unusedSimpArgs false
set_option linter.unusedVariables false

noncomputable def pz : Array Value := zeroOf Tryd.prog 195
theorem pz_size : pz.size = 353 := by kernel_rfl
attribute [local go_sem] pz_size
theorem wpList_run0 {P : Program} {ops : Array Oper} {rest : List Oper} {o : Oper} {a : Act} {w : World} {Q : Exit → Act → World → Prop} (hgd : o.guard = none) (v : Value)
    (hr : (execOp a.eval o).run P w = .ok (.value v) w) (h : wpList P ops Q rest (a.put o.dst v) w) : wpList P ops Q (o :: rest) a w := wpList_run hgd v w hr h
theorem info212 : (Tryd.prog.info? 212).map (fun i => (i.zero, i.size, i.bytes)) = some (some (.agg #[.pointer none, .string ⟨#[]⟩, .int .u32 0, .int .u32 0, .int .u32 0, .int .u32 0, .int .u32 0, .int .u16 0, .int .u8 0, .int .u8 0]), 10, 48) := by kernel_rfl
theorem info25 : (Tryd.prog.info? 25).map (fun i => (i.zero, i.size, i.bytes)) = some (some (.int .u32 0), 1, 4) := by kernel_rfl
def Glob (w : World) : Prop := w.cell? ⟨0, 0, none⟩ = some (.int .u32 4294967295) ∧ w.cell? ⟨0, 1, none⟩ = some (.int .u32 4294967295)
theorem Glob.below {w w' : World} (h : Glob w) (hb : Below w.heap.size w w') : Glob w' := ⟨kept hb h.1, kept hb h.2⟩
/-- The parser at block b, its symbol table empty. -/
def PA (w : World) (b : Nat) (ts : Bool) (ex : Int) : Prop := w.cell? ⟨b, 23, none⟩ = some (.int .u64 0) ∧ w.cell? ⟨b, 26, none⟩ = some (.int .u8 ex) ∧ w.cell? ⟨b, 32, none⟩ = some (.bool ts) ∧ w.cell? ⟨b, 66, none⟩ = some (.int .u32 0) ∧ w.cell? ⟨b, 106, none⟩ = some (.slice none 0 0) ∧ w.cell? ⟨b, 108, none⟩ = some (.slice none 0 0) ∧ w.frozen? ⟨b, 106, none⟩ = false ∧ w.frozen? ⟨b, 108, none⟩ = false
def NPr (ts : Bool) (ex : Int) (w : World) (e : Ending) (w' : World) : Prop := ∃ b, e = .returned (.pointer (some ⟨b, 0, none⟩)) ∧ w.heap.size ≤ b ∧ PA w' b ts ex ∧ Below w.heap.size w w'
set_option maxRecDepth 100000 in
set_option maxHeartbeats 8000000 in
theorem newPar (ts : Bool) (ex : Int) (hex : ex = 0 ∨ ex = 1) (w : World) (hg : Glob w) : Calls Tryd.prog 5 #[.bool ts, .int .u64 ex, .int .u64 0] w (NPr ts ex w) := by
  obtain ⟨hg0, hg1⟩ := hg
  have l0 : 0 < w.heap.size := World.block_lt_of_cell? _ _ hg0
  have hmm := @run_makeMap Tryd.prog
  rcases hex with rfl | rfl
  all_goals
    go_enter Tryd.func5, Tryd.ntmps5
    go_upto_region 2 with (refine wpList_run0 (o := ⟨some 9, .build 195 #[], _, _, _, _⟩) rfl (.agg pz) ?hr ?_; case hr => kernel_rfl)
    obtain ⟨W, hW⟩ : ∃ W, W = w.alloc (.cells pz 195) := ⟨_, rfl⟩
    have hat : At W w.heap.size 195 pz := by rw [hW]; exact At.new _ _ _
    have zW : W.heap.size = w.heap.size + 1 := by rw [hW]; simp
    have HB := Lib.hid (show Below w.heap.size w W by rw [hW]; exact (Below.refl _ _).alloc (Nat.le_refl _) _)
    have g0 := kept HB.out hg0
    have g1 := kept HB.out hg1
    have c23 : W.cell? ⟨w.heap.size, 23, none⟩ = some (.int .u64 0) := (hat.cell 23).trans (by kernel_rfl)
    have f23 := hat.frozen 23
    have c26 : W.cell? ⟨w.heap.size, 26, none⟩ = some (.int .u8 0) := (hat.cell 26).trans (by kernel_rfl)
    have f26 := hat.frozen 26
    have c32 : W.cell? ⟨w.heap.size, 32, none⟩ = some (.bool false) := (hat.cell 32).trans (by kernel_rfl)
    have f32 := hat.frozen 32
    have c66 : W.cell? ⟨w.heap.size, 66, none⟩ = some (.int .u32 0) := (hat.cell 66).trans (by kernel_rfl)
    have f66 := hat.frozen 66
    have c104 : W.cell? ⟨w.heap.size, 104, none⟩ = some (.pointer none) := (hat.cell 104).trans (by kernel_rfl)
    have f104 := hat.frozen 104
    have c106 : W.cell? ⟨w.heap.size, 106, none⟩ = some (.slice none 0 0) := (hat.cell 106).trans (by kernel_rfl)
    have f106 := hat.frozen 106
    have c108 : W.cell? ⟨w.heap.size, 108, none⟩ = some (.slice none 0 0) := (hat.cell 108).trans (by kernel_rfl)
    have f108 := hat.frozen 108
    have c117 : W.cell? ⟨w.heap.size, 117, none⟩ = some (.map none) := (hat.cell 117).trans (by kernel_rfl)
    have f117 := hat.frozen 117
    have c187 : W.cell? ⟨w.heap.size, 187, none⟩ = some (.pointer none) := (hat.cell 187).trans (by kernel_rfl)
    have f187 := hat.frozen 187
    have c310 : W.cell? ⟨w.heap.size, 310, none⟩ = some (.int .u32 0) := (hat.cell 310).trans (by kernel_rfl)
    have f310 := hat.frozen 310
    have c311 : W.cell? ⟨w.heap.size, 311, none⟩ = some (.int .u32 0) := (hat.cell 311).trans (by kernel_rfl)
    have f311 := hat.frozen 311
    have c312 : W.cell? ⟨w.heap.size, 312, none⟩ = some (.int .u32 0) := (hat.cell 312).trans (by kernel_rfl)
    have f312 := hat.frozen 312
    have c313 : W.cell? ⟨w.heap.size, 313, none⟩ = some (.int .u32 0) := (hat.cell 313).trans (by kernel_rfl)
    have f313 := hat.frozen 313
    rw [← hW]
    clear hW hat hg0 hg1
    have lw : w.heap.size < W.heap.size := by omega
    have lw0 : 0 < W.heap.size := by omega
    have hne : ¬ w.heap.size = 0 := by omega
    have hne' : ¬ 0 = w.heap.size := by omega
    go_wp2_with fail
    go_ret
    exact ⟨_, rfl, Nat.le_refl _, ⟨by simp [go_sem, *], by simp [go_sem, *], by simp [go_sem, *], by simp [go_sem, *], by simp [go_sem, *], by simp [go_sem, *], by simp [go_sem, *], by simp [go_sem, *]⟩, (by repeat (first | with_reducible exact HB.out | (with_reducible refine Below.alloc ?_ (by simp; try omega) _) | (with_reducible refine Below.setCell ?_ (by simp; try omega) _)))⟩

theorem hp2 (w1 : World) (a1 a2 a3 a4 : Addr) (v1 v2 v3 v4 : Value) (o1 o2 : Obj) (k : Nat) (hk : k < w1.heap.size) (h1 : k ≠ a1.block) (h2 : k ≠ a2.block) (h3 : k ≠ a3.block) (h4 : k ≠ a4.block) : ((((((w1.setCell a1 v1).setCell a2 v2).setCell a3 v3).setCell a4 v4).alloc o1).alloc o2).drew.heap[k]? = w1.heap[k]? := by
  show ((((((w1.setCell a1 v1).setCell a2 v2).setCell a3 v3).setCell a4 v4).alloc o1).alloc o2).heap[k]? = w1.heap[k]?
  rw [Below.heap_alloc _ _ k (by simp [World.setCell]; omega), Below.heap_alloc _ _ k (by simp [World.setCell]; omega), Below.heap_setCell _ _ _ k h4, Below.heap_setCell _ _ _ k h3, Below.heap_setCell _ _ _ k h2, Below.heap_setCell _ _ _ k h1]
def symOf (nm : ByteArray) (kd : Int) : List Value := [.pointer none, .string nm, .int .u32 4294967295, .int .u32 4294967295, .int .u32 0, .int .u32 0, .int .u32 0, .int .u16 0, .int .u8 kd, .int .u8 0]
theorem own_frozen {w : World} {B : Nat} {e : TypeId} {sz g n c m : Nat} {xs : List Value} (h : w.ownsRow B e sz (.slice (some ⟨g, 0, none⟩) n c) m xs) (i : Nat) : w.frozen? ⟨g, i, none⟩ = false := by
  obtain ⟨_, ⟨e, _⟩ | ⟨g', cap, cur, e, _, hg, _⟩⟩ := h
  · cases e
  · simp only [Value.slice.injEq, Option.some.injEq, Addr.mk.injEq] at e
    obtain ⟨⟨rfl, _⟩, _⟩ := e
    simp [World.frozen?, hg]
/-- What newSymbol leaves, on an empty table: one symbol; of the older blocks the parser alone has changed, and in it the two tables alone. -/
def NSP (b : Nat) (nm : ByteArray) (kd : Int) (w : World) (e : Ending) (w' : World) : Prop :=
  ∃ gg cap, e = .returned (.agg #[.int .u32 0, .int .u32 0]) ∧ w'.cell? ⟨b, 106, none⟩ = some (.slice (some ⟨gg, 0, none⟩) 1 cap) ∧ w.heap.size ≤ gg ∧ gg < w'.heap.size ∧ (∀ i, i < 10 → w'.cell? ⟨gg, i, none⟩ = (symOf nm kd)[i]?) ∧ (∀ i, w'.frozen? ⟨gg, i, none⟩ = false) ∧
    (∀ i, i ≠ 106 → i ≠ 108 → w'.cell? ⟨b, i, none⟩ = w.cell? ⟨b, i, none⟩) ∧ Below b w w' ∧ ∀ k, k < w.heap.size → k ≠ b → w'.heap[k]? = w.heap[k]?
set_option maxRecDepth 100000 in
set_option maxHeartbeats 8000000 in
theorem newSymF (b : Nat) (ex : Int) (nm : ByteArray) (kd : Int) (w : World) (hg : Glob w) (hb : 0 < b) (h : PA w b false ex) :
    Calls Tryd.prog 25 #[.pointer (some ⟨b, 0, none⟩), .int .u8 kd, .string nm] w (NSP b nm kd w) := by
  obtain ⟨i0, hi0, hz0, hz1, hz2⟩ := info_parts info212
  obtain ⟨i1, hi1, hy0, hy1, hy2⟩ := info_parts info25
  obtain ⟨hg0, hg1⟩ := hg
  obtain ⟨h23, h26, h32, h66, h106, h108, f106, f108⟩ := h
  have lb : b < w.heap.size := World.block_lt_of_cell? _ _ h66
  have lb1 : b < w.heap.size + 1 := by omega
  have lb2 : b < w.heap.size + 1 + 1 := by omega
  have l0 : 0 < w.heap.size := by omega
  have hb0 : ¬ b = 0 := by omega
  have hb0' : ¬ 0 = b := by omega
  have HI := Lib.hid hi0
  have H0 := Lib.hid hz0
  have H1 := Lib.hid hz1
  have H2 := Lib.hid hz2
  have KI := Lib.hid hi1
  have K0 := Lib.hid hy0
  have K1 := Lib.hid hy1
  have K2 := Lib.hid hy2
  clear hi0 hz0 hz1 hz2 hi1 hy0 hy1 hy2
  go_enter Tryd.func25, Tryd.ntmps25
  go_wp2_with fail
  go_region
  all_goals
    go_wp2_with fail
    obtain ⟨W, hW⟩ : ∃ W, W = ((w.alloc (Obj.cells #[.int .u32 0, .int .u32 0] 51)).alloc (Obj.cells #[.int .u32 0, .int .u32 0] 51)).drew := ⟨_, rfl⟩
    have HB : Below w.heap.size w W := by rw [hW]; exact (((Below.refl _ _).alloc (Nat.le_refl _) _).alloc (by simp) _).drew
    have ZW : w.heap.size + 2 ≤ W.heap.size := by rw [hW]; simp
    have k6 : W.cell? ⟨w.heap.size, 0, none⟩ = some (.int .u32 0) := by rw [hW]; simp [go_sem]
    have k6' : W.cell? ⟨w.heap.size, 1, none⟩ = some (.int .u32 0) := by rw [hW]; simp [go_sem]
    have e6 : W.frozen? ⟨w.heap.size, 0, none⟩ = false := by rw [hW]; simp [go_sem]
    have e6' : W.frozen? ⟨w.heap.size, 1, none⟩ = false := by rw [hW]; simp [go_sem]
    have k7 : W.cell? ⟨w.heap.size + 1, 0, none⟩ = some (.int .u32 0) := by rw [hW]; simp [go_sem]
    have k7' : W.cell? ⟨w.heap.size + 1, 1, none⟩ = some (.int .u32 0) := by rw [hW]; simp [go_sem]
    have q66 := kept HB h66
    have q106 := kept HB h106
    have q108 := kept HB h108
    have q32 := kept HB h32
    have p0 := kept HB hg0
    have p1 := kept HB hg1
    have r106 := keptF HB h106 f106
    have r108 := keptF HB h108 f108
    rw [← hW]
    clear hW h66 h32 hg0 hg1
    have lbW : b < W.heap.size := by omega
    have l0W : 0 < W.heap.size := by omega
    have lw0 : w.heap.size < W.heap.size := by omega
    have lw1 : w.heap.size + 1 < W.heap.size := by omega
    go_region_law
      ((refine step_append_lies _ (by rfl) _ _ _ (by rfl) b 212 i0 _ 10 48 Tryd.underlying139 HI.out H0.out H1.out H2.out rfl (by omega) (.slice none 0 0) 0 [] (by rfl) ⟨rfl, .inl ⟨rfl, rfl⟩⟩ ⟨W.heap.size, 0, none⟩ 1 1 (symOf nm kd) (by rfl) (by rfl) (World.news_of_block (cs := (symOf nm kd).toArray) (t := 212) (fr := (0, 0)) (heap_alloc_new W _)) (by simp [symOf, Value.oneCell']) (by omega) (by unfold maxLen; omega) (by omega) (by simp; omega) (W.heap.size + 1) (by simp) ?_; intro gg cap w1 hown1 hgrow hat hlt; have s1 : w1.frozen? ⟨b, 106, none⟩ = false := (by rw [hgrow.frozen_far _ (by simp; try omega) (by simp [Value.ownBlock])]; simp [go_sem, *]); have s2 : w1.cell? ⟨b, 106, none⟩ = some (.slice none 0 0) := (by rw [hgrow.cell_far _ (by simp; try omega) (by simp [Value.ownBlock])]; simp [go_sem, *]); have s3 : w1.cell? ⟨0, 0, none⟩ = some (.int .u32 4294967295) := (by rw [hgrow.cell_far _ (by simp; try omega) (by simp [Value.ownBlock])]; simp [go_sem, *]); have s4 : w1.cell? ⟨0, 1, none⟩ = some (.int .u32 4294967295) := (by rw [hgrow.cell_far _ (by simp; try omega) (by simp [Value.ownBlock])]; simp [go_sem, *])))
    all_goals
      have KB := Lib.hid (show ∀ k, k < W.heap.size → w1.heap[k]? = W.heap[k]? from fun k hk => by
        rw [hgrow.block k (by simp; omega) (by simp [Value.ownBlock])]
        exact Below.heap_alloc W _ k hk)
      have CK := Lib.hid (show ∀ k o, k < W.heap.size → w1.cell? ⟨k, o, none⟩ = W.cell? ⟨k, o, none⟩ from fun k o hk => World.cell?_of_block (a := ⟨k, o, none⟩) (KB.out k hk))
      have FK := Lib.hid (show ∀ k o, k < W.heap.size → w1.frozen? ⟨k, o, none⟩ = W.frozen? ⟨k, o, none⟩ from fun k o hk => World.frozen?_of_block (a := ⟨k, o, none⟩) (KB.out k hk))
      have t6 := (CK.out _ 0 lw0).trans k6
      have t6' := (CK.out _ 1 lw0).trans k6'
      have u6 := (FK.out _ 0 lw0).trans e6
      have u6' := (FK.out _ 1 lw0).trans e6'
      have t7 := (CK.out _ 0 lw1).trans k7
      have t7' := (CK.out _ 1 lw1).trans k7'
      have t32 := (CK.out _ 32 lbW).trans q32
      have t108 := (CK.out _ 108 lbW).trans q108
      have v108 := (FK.out _ 108 lbW).trans r108
      have hgg : gg = W.heap.size + 1 := by
        rcases hat with h | h
        · simp [Value.ownBlock] at h
        · exact h
      have HC := Lib.hid (show ∀ i, i < 10 → w1.cell? ⟨gg, i, none⟩ = (symOf nm kd)[i]? from fun i hi => by
        have := World.ownsRow.cellAt hown1 i (by omega)
        simpa using this)
      have HF := Lib.hid (own_frozen hown1)
      have BB := Lib.hid (show Below b w w1 from (Below.grown (Below.drew (Below.alloc (show Below w.heap.size w W from HB) (by omega) _)) hgrow (by simp; try omega) (fun k hk => by simp [Value.ownBlock] at hk)).mono (by omega))
      have AB := Lib.hid (show ∀ k, k < w.heap.size → w1.heap[k]? = w.heap[k]? from fun k hk => (KB.out k (by omega)).trans (HB.block k hk))
      have CB := Lib.hid (show ∀ i, w1.cell? ⟨b, i, none⟩ = w.cell? ⟨b, i, none⟩ from fun i => World.cell?_of_block (a := ⟨b, i, none⟩) (AB.out b lb))
      have l1 : W.heap.size + 1 < w1.heap.size := by omega
      have l2 : w.heap.size < w1.heap.size := by omega
      have l3 : b < w1.heap.size := by omega
      have l4 : w.heap.size + 1 < w1.heap.size := by omega
      have l5 : w.heap.size + 1 < w1.heap.size + 1 := by omega
      have l6 : w.heap.size < w1.heap.size + 1 := by omega
      have l7 : b < w1.heap.size + 1 := by omega
      have x1 : ¬ b = w.heap.size := by omega
      have x2 : ¬ w.heap.size = b := by omega
      have x3 : ¬ b = w.heap.size + 1 := by omega
      have x4 : ¬ w.heap.size + 1 = b := by omega
      subst hgg
      have x5 : ¬ W.heap.size + 1 = b := by omega
      have x6 : ¬ W.heap.size + 1 = w.heap.size := by omega
      have x7 : ¬ b = W.heap.size + 1 := by omega
      have x8 : ¬ w.heap.size = W.heap.size + 1 := by omega
      clear hown1 hgrow hat q66 q106 q108 q32 p0 p1 k6 k6' k7 k7' e6 e6' r106 r108 s3 s4 h23 h26 h106 h108 f106 f108
      go_wp2_with fail
      exact bodyPost_ret (v := .agg #[.int .u32 0, .int .u32 0]) (by simp [results, Tryd.results25, go_sem, *]) rfl ⟨W.heap.size + 1, cap, rfl, by simp [go_sem, *], by omega, by simp [World.setCell]; omega, (fun i hi => by rw [World.cell?_of_block (a := ⟨W.heap.size + 1, i, none⟩) (w := w1) (by rw [Below.heap_setCell _ _ _ _ (by simp; omega), Below.heap_setCell _ _ _ _ (by simp; omega), Below.heap_setCell _ _ _ _ (by simp; omega)])]; exact HC.out i hi), (fun i => by rw [World.frozen?_of_block (a := ⟨W.heap.size + 1, i, none⟩) (w := w1) (by rw [Below.heap_setCell _ _ _ _ (by simp; omega), Below.heap_setCell _ _ _ _ (by simp; omega), Below.heap_setCell _ _ _ _ (by simp; omega)])]; exact HF.out i), (fun i h1 h2 => by simp [go_sem, *, Ne.symm h1]; exact CB.out i), ((BB.out.setCell (by simp) _).setCell (by simp; omega) _).setCell (by simp; omega) _, (fun k hk hkb => by rw [Below.heap_setCell _ _ _ k (by simp; omega), Below.heap_setCell _ _ _ k (by simp; omega), Below.heap_setCell _ _ _ k (by simp; omega)]; exact AB.out k hk)⟩
set_option maxRecDepth 100000 in
set_option maxHeartbeats 8000000 in
theorem newSymT (b : Nat) (ex : Int) (nm : ByteArray) (kd : Int) (w : World) (hg : Glob w) (hb : 0 < b) (h : PA w b true ex) :
    Calls Tryd.prog 25 #[.pointer (some ⟨b, 0, none⟩), .int .u8 kd, .string nm] w (NSP b nm kd w) := by
  obtain ⟨i0, hi0, hz0, hz1, hz2⟩ := info_parts info212
  obtain ⟨i1, hi1, hy0, hy1, hy2⟩ := info_parts info25
  obtain ⟨hg0, hg1⟩ := hg
  obtain ⟨h23, h26, h32, h66, h106, h108, f106, f108⟩ := h
  have lb : b < w.heap.size := World.block_lt_of_cell? _ _ h66
  have lb1 : b < w.heap.size + 1 := by omega
  have lb2 : b < w.heap.size + 1 + 1 := by omega
  have l0 : 0 < w.heap.size := by omega
  have hb0 : ¬ b = 0 := by omega
  have hb0' : ¬ 0 = b := by omega
  have HI := Lib.hid hi0
  have H0 := Lib.hid hz0
  have H1 := Lib.hid hz1
  have H2 := Lib.hid hz2
  have KI := Lib.hid hi1
  have K0 := Lib.hid hy0
  have K1 := Lib.hid hy1
  have K2 := Lib.hid hy2
  clear hi0 hz0 hz1 hz2 hi1 hy0 hy1 hy2
  go_enter Tryd.func25, Tryd.ntmps25
  go_wp2_with fail
  go_region
  all_goals
    go_wp2_with fail
    obtain ⟨W, hW⟩ : ∃ W, W = ((w.alloc (Obj.cells #[.int .u32 0, .int .u32 0] 51)).alloc (Obj.cells #[.int .u32 0, .int .u32 0] 51)).drew := ⟨_, rfl⟩
    have HB : Below w.heap.size w W := by rw [hW]; exact (((Below.refl _ _).alloc (Nat.le_refl _) _).alloc (by simp) _).drew
    have ZW : w.heap.size + 2 ≤ W.heap.size := by rw [hW]; simp
    have k6 : W.cell? ⟨w.heap.size, 0, none⟩ = some (.int .u32 0) := by rw [hW]; simp [go_sem]
    have k6' : W.cell? ⟨w.heap.size, 1, none⟩ = some (.int .u32 0) := by rw [hW]; simp [go_sem]
    have e6 : W.frozen? ⟨w.heap.size, 0, none⟩ = false := by rw [hW]; simp [go_sem]
    have e6' : W.frozen? ⟨w.heap.size, 1, none⟩ = false := by rw [hW]; simp [go_sem]
    have k7 : W.cell? ⟨w.heap.size + 1, 0, none⟩ = some (.int .u32 0) := by rw [hW]; simp [go_sem]
    have k7' : W.cell? ⟨w.heap.size + 1, 1, none⟩ = some (.int .u32 0) := by rw [hW]; simp [go_sem]
    have q66 := kept HB h66
    have q106 := kept HB h106
    have q108 := kept HB h108
    have q32 := kept HB h32
    have p0 := kept HB hg0
    have p1 := kept HB hg1
    have r106 := keptF HB h106 f106
    have r108 := keptF HB h108 f108
    rw [← hW]
    clear hW h66 h32 hg0 hg1
    have lbW : b < W.heap.size := by omega
    have l0W : 0 < W.heap.size := by omega
    have lw0 : w.heap.size < W.heap.size := by omega
    have lw1 : w.heap.size + 1 < W.heap.size := by omega
    go_region_law
      ((refine step_append_lies _ (by rfl) _ _ _ (by rfl) b 212 i0 _ 10 48 Tryd.underlying139 HI.out H0.out H1.out H2.out rfl (by omega) (.slice none 0 0) 0 [] (by rfl) ⟨rfl, .inl ⟨rfl, rfl⟩⟩ ⟨W.heap.size, 0, none⟩ 1 1 (symOf nm kd) (by rfl) (by rfl) (World.news_of_block (cs := (symOf nm kd).toArray) (t := 212) (fr := (0, 0)) (heap_alloc_new W _)) (by simp [symOf, Value.oneCell']) (by omega) (by unfold maxLen; omega) (by omega) (by simp; omega) (W.heap.size + 1) (by simp) ?_; intro gg cap w1 hown1 hgrow hat hlt; have s1 : w1.frozen? ⟨b, 106, none⟩ = false := (by rw [hgrow.frozen_far _ (by simp; try omega) (by simp [Value.ownBlock])]; simp [go_sem, *]); have s2 : w1.cell? ⟨b, 106, none⟩ = some (.slice none 0 0) := (by rw [hgrow.cell_far _ (by simp; try omega) (by simp [Value.ownBlock])]; simp [go_sem, *]); have s3 : w1.cell? ⟨0, 0, none⟩ = some (.int .u32 4294967295) := (by rw [hgrow.cell_far _ (by simp; try omega) (by simp [Value.ownBlock])]; simp [go_sem, *]); have s4 : w1.cell? ⟨0, 1, none⟩ = some (.int .u32 4294967295) := (by rw [hgrow.cell_far _ (by simp; try omega) (by simp [Value.ownBlock])]; simp [go_sem, *])))
    all_goals
      have KB := Lib.hid (show ∀ k, k < W.heap.size → w1.heap[k]? = W.heap[k]? from fun k hk => by
        rw [hgrow.block k (by simp; omega) (by simp [Value.ownBlock])]
        exact Below.heap_alloc W _ k hk)
      have CK := Lib.hid (show ∀ k o, k < W.heap.size → w1.cell? ⟨k, o, none⟩ = W.cell? ⟨k, o, none⟩ from fun k o hk => World.cell?_of_block (a := ⟨k, o, none⟩) (KB.out k hk))
      have FK := Lib.hid (show ∀ k o, k < W.heap.size → w1.frozen? ⟨k, o, none⟩ = W.frozen? ⟨k, o, none⟩ from fun k o hk => World.frozen?_of_block (a := ⟨k, o, none⟩) (KB.out k hk))
      have t6 := (CK.out _ 0 lw0).trans k6
      have t6' := (CK.out _ 1 lw0).trans k6'
      have u6 := (FK.out _ 0 lw0).trans e6
      have u6' := (FK.out _ 1 lw0).trans e6'
      have t7 := (CK.out _ 0 lw1).trans k7
      have t7' := (CK.out _ 1 lw1).trans k7'
      have t32 := (CK.out _ 32 lbW).trans q32
      have t108 := (CK.out _ 108 lbW).trans q108
      have v108 := (FK.out _ 108 lbW).trans r108
      have hgg : gg = W.heap.size + 1 := by
        rcases hat with h | h
        · simp [Value.ownBlock] at h
        · exact h
      have HC := Lib.hid (show ∀ i, i < 10 → w1.cell? ⟨gg, i, none⟩ = (symOf nm kd)[i]? from fun i hi => by
        have := World.ownsRow.cellAt hown1 i (by omega)
        simpa using this)
      have HF := Lib.hid (own_frozen hown1)
      have BB := Lib.hid (show Below b w w1 from (Below.grown (Below.drew (Below.alloc (show Below w.heap.size w W from HB) (by omega) _)) hgrow (by simp; try omega) (fun k hk => by simp [Value.ownBlock] at hk)).mono (by omega))
      have AB := Lib.hid (show ∀ k, k < w.heap.size → w1.heap[k]? = w.heap[k]? from fun k hk => (KB.out k (by omega)).trans (HB.block k hk))
      have CB := Lib.hid (show ∀ i, w1.cell? ⟨b, i, none⟩ = w.cell? ⟨b, i, none⟩ from fun i => World.cell?_of_block (a := ⟨b, i, none⟩) (AB.out b lb))
      have l1 : W.heap.size + 1 < w1.heap.size := by omega
      have l2 : w.heap.size < w1.heap.size := by omega
      have l3 : b < w1.heap.size := by omega
      have l4 : w.heap.size + 1 < w1.heap.size := by omega
      have l5 : w.heap.size + 1 < w1.heap.size + 1 := by omega
      have l6 : w.heap.size < w1.heap.size + 1 := by omega
      have l7 : b < w1.heap.size + 1 := by omega
      have x1 : ¬ b = w.heap.size := by omega
      have x2 : ¬ w.heap.size = b := by omega
      have x3 : ¬ b = w.heap.size + 1 := by omega
      have x4 : ¬ w.heap.size + 1 = b := by omega
      subst hgg
      have x5 : ¬ W.heap.size + 1 = b := by omega
      have x6 : ¬ W.heap.size + 1 = w.heap.size := by omega
      have x7 : ¬ b = W.heap.size + 1 := by omega
      have x8 : ¬ w.heap.size = W.heap.size + 1 := by omega
      clear hown1 hgrow hat q66 q106 q108 q32 p0 p1 k6 k6' k7 k7' e6 e6' r106 r108 s3 s4 h23 h26 h106 h108 f106 f108
      go_wp2_with fail
      exact bodyPost_ret (v := .agg #[.int .u32 0, .int .u32 0]) (by simp [results, Tryd.results25, go_sem, *]) rfl ⟨W.heap.size + 1, cap, rfl, by simp [go_sem, *], by omega, by simp [World.setCell]; omega, (fun i hi => by rw [World.cell?_of_block (a := ⟨W.heap.size + 1, i, none⟩) (w := w1) (hp2 w1 ⟨b, 106, none⟩ ⟨b, 108, none⟩ ⟨w.heap.size, 0, none⟩ ⟨w.heap.size, 1, none⟩ _ _ _ _ _ _ (W.heap.size + 1) (by omega) (by simp; omega) (by simp; omega) (by simp; omega) (by simp; omega))]; exact HC.out i hi), (fun i => by rw [World.frozen?_of_block (a := ⟨W.heap.size + 1, i, none⟩) (w := w1) (hp2 w1 ⟨b, 106, none⟩ ⟨b, 108, none⟩ ⟨w.heap.size, 0, none⟩ ⟨w.heap.size, 1, none⟩ _ _ _ _ _ _ (W.heap.size + 1) (by omega) (by simp; omega) (by simp; omega) (by simp; omega) (by simp; omega))]; exact HF.out i), (fun i h1 h2 => by simp [go_sem, *, Ne.symm h1, Ne.symm h2]; exact CB.out i), (((((((BB.out.setCell (by simp) _).setCell (by simp) _).setCell (by simp; omega) _).setCell (by simp; omega) _).alloc (by simp [World.setCell]; omega) _).alloc (by simp [World.setCell]; omega) _).drew), (fun k hk hkb => by exact (hp2 w1 ⟨b, 106, none⟩ ⟨b, 108, none⟩ ⟨w.heap.size, 0, none⟩ ⟨w.heap.size, 1, none⟩ _ _ _ _ _ _ k (by omega) (by simp; omega) (by simp; omega) (by simp; omega) (by simp; omega)).trans (AB.out k hk))⟩
end Go.Proofs.YtjnffbnipjkibaaDoor
