/- Proved here: the contract of newSymbol. Conditions: the parser's cells, the symbol table owned, as stated. -/
import Derived.Test.YtoblkmnhoiodcaaDoorBase
import Derived.WalkKit
import Derived.WalkSpells
import Derived.WalkLawsBesides
import Derived.Lib.Hide
import Derived.Lib.SliceRun
import Derived.Deep.RegionWith
import Derived.OwnWalk
import Derived.Deep.RegionHeld3
import Derived.Deep.RegionLaw
import Derived.Deep.AppendLies
import Derived.StillTactics
import Derived.Laws.OwnMore
namespace Go.Proofs.YtoblkmnhoiodcaaDoor
namespace NS
open Go.RowKit
set_option linter.unusedSimpArgs false
set_option linter.unusedVariables false

theorem info222 : (Tryd.prog.info? 222).map (fun i => (i.zero, i.size, i.bytes)) = some (some (.agg #[.pointer none, .string ⟨#[]⟩, .int .u32 0, .int .u32 0, .int .u32 0, .int .u32 0, .int .u32 0, .int .u16 0, .int .u8 0, .int .u8 0]), 10, 48) := by kernel_rfl
def symOf (nm : ByteArray) (kd : Int) : List Value := [.pointer none, .string nm, .int .u32 4294967295, .int .u32 4294967295, .int .u32 0, .int .u32 0, .int .u32 0, .int .u16 0, .int .u8 kd, .int .u8 0]
/-- The parser at block b: its source index, its symbol table (n symbols, the cells xs), no TypeScript. -/
def PS (w : World) (B b : Nat) (src : Int) (ts : Bool) (n : Nat) (xs : List Value) : Prop :=
  ∃ a c, w.cell? ⟨b, 66, none⟩ = some (.int .u32 src) ∧ w.cell? ⟨b, 106, none⟩ = some (.slice a n c) ∧ w.frozen? ⟨b, 106, none⟩ = false ∧ w.cell? ⟨b, 32, none⟩ = some (.bool ts) ∧ w.ownsRow B 222 10 (.slice a n c) n xs ∧ (∀ k, (Value.slice a n c).ownBlock = some k → k ≠ b)
/-- Every block but b and the rows of symbols is as it was. -/
def Kp (b : Nat) (w w' : World) : Prop := ∀ k, k < w.heap.size → k ≠ b → (∀ cs fr, w.heap[k]? ≠ some (.cells cs 222 fr)) → w'.heap[k]? = w.heap[k]?
theorem Kp.block {b k : Nat} {w w' : World} (h : Kp b w w') {cs : Array Value} {t : TypeId} {fr : Nat × Nat} (hk : w.heap[k]? = some (.cells cs t fr)) (hb : k ≠ b) (ht : t ≠ 222) : w'.heap[k]? = w.heap[k]? :=
  h k (Array.getElem?_eq_some_iff.1 hk).1 hb (fun cs' fr' e => by rw [hk] at e; simp only [Option.some.injEq, Obj.cells.injEq] at e; exact ht e.2.1)
theorem Kp.cell {b k : Nat} {w w' : World} (h : Kp b w w') {cs : Array Value} {t : TypeId} {fr : Nat × Nat} (hk : w.heap[k]? = some (.cells cs t fr)) (hb : k ≠ b) (ht : t ≠ 222) (o : Nat) : w'.cell? ⟨k, o, none⟩ = w.cell? ⟨k, o, none⟩ ∧ w'.frozen? ⟨k, o, none⟩ = w.frozen? ⟨k, o, none⟩ :=
  ⟨World.cell?_of_block (a := ⟨k, o, none⟩) (h.block hk hb ht), World.frozen?_of_block (a := ⟨k, o, none⟩) (h.block hk hb ht)⟩
theorem rowType {w : World} {B : Nat} {e : TypeId} {sz : Nat} {v : Value} {n : Nat} {xs : List Value} (h : w.ownsRow B e sz v n xs) {k : Nat} (hk : v.ownBlock = some k) : ∃ cs, w.heap[k]? = some (.cells cs e (0, 0)) := by
  obtain ⟨_, ⟨rfl, _⟩ | ⟨g, cap, cur, rfl, _, hg, _⟩⟩ := h
  · cases hk
  · simp only [Value.ownBlock, Option.some.injEq] at hk
    subst hk
    exact ⟨cur, hg⟩
/-- Block b but for the table's cell is as it was. -/
def Sb (b : Nat) (w w' : World) : Prop := ∀ o, o ≠ 106 → w'.cell? ⟨b, o, none⟩ = w.cell? ⟨b, o, none⟩ ∧ (w.frozen? ⟨b, o, none⟩ = false → w'.frozen? ⟨b, o, none⟩ = false)
theorem SBC (w w1 : World) (b r o : Nat) (hr : b ≠ r) (ho : o ≠ 106) (h : w1.heap[b]? = w.heap[b]?) (u v x : Value) : (((w1.setCell ⟨b, 106, none⟩ u).setCell ⟨r, 0, none⟩ v).setCell ⟨r, 1, none⟩ x).cell? ⟨b, o, none⟩ = w.cell? ⟨b, o, none⟩ := by
  rw [World.cell?_of_block (a := ⟨b, o, none⟩) (Below.heap_setCell _ ⟨r, 1, none⟩ x b (by simpa using hr)), World.cell?_of_block (a := ⟨b, o, none⟩) (Below.heap_setCell _ ⟨r, 0, none⟩ v b (by simpa using hr)), World.cell?_setCell_other _ _ _ _ (by intro e; injection e with _ e1 _; exact ho (by omega))]
  exact World.cell?_of_block (a := ⟨b, o, none⟩) h
theorem SBF (w w1 : World) (b r o : Nat) (hr : b ≠ r) (h : w1.heap[b]? = w.heap[b]?) (hf : w.frozen? ⟨b, o, none⟩ = false) (u v x : Value) : (((w1.setCell ⟨b, 106, none⟩ u).setCell ⟨r, 0, none⟩ v).setCell ⟨r, 1, none⟩ x).frozen? ⟨b, o, none⟩ = false := by
  simp [go_sem]
  rw [World.frozen?_of_block (a := ⟨b, o, none⟩) h]
  exact hf
def NSP (B b : Nat) (src : Int) (n : Nat) (xs : List Value) (nm : ByteArray) (kd : Int) (w : World) (e : Ending) (w' : World) : Prop :=
  e = .returned (.agg #[.int .u32 src, .int .u32 n]) ∧ PS w' B b src false (n + 1) (xs ++ symOf nm kd) ∧ Kp b w w' ∧ Below B w w' ∧ Sb b w w'
theorem ownSet {w : World} {B : Nat} {e : TypeId} {sz : Nat} {v : Value} {n : Nat} {xs : List Value} (h : w.ownsRow B e sz v n xs) {k : Nat} (hne : v.ownBlock ≠ some k) (i : Nat) (u : Value) : (w.setCell ⟨k, i, none⟩ u).ownsRow B e sz v n xs :=
  World.ownsRow.kept (row := some k) h ⟨by simp [World.setCell], by simp [World.setCell], by simp [World.setCell], by simp [World.setCell], fun j _ hj => Below.heap_setCell w ⟨k, i, none⟩ u j (fun e => hj (by rw [e]))⟩ (.inr hne)
set_option maxRecDepth 100000 in
set_option maxHeartbeats 4000000 in
theorem newSym (B b : Nat) (src : Int) (n : Nat) (xs : List Value) (nm : ByteArray) (kd : Int) (w : World) (hB : 0 < B) (hb : B ≤ b) (hn : n ≤ 1000000) (hz : B ≤ w.heap.size)
    (hg0 : w.cell? ⟨0, 0, none⟩ = some (.int .u32 4294967295)) (hg1 : w.cell? ⟨0, 1, none⟩ = some (.int .u32 4294967295)) (h : PS w B b src false n xs) :
    Calls Tryd.prog 21 #[.pointer (some ⟨b, 0, none⟩), .int .u8 kd, .string nm] w (NSP B b src n xs nm kd w) := by
  obtain ⟨i0, hi0, hz0, hz1, hz2⟩ := info_parts info222
  obtain ⟨a, c, h66, h106, f106, h32, hown, hne⟩ := h
  have lb : b < w.heap.size := World.block_lt_of_cell? _ _ h66
  have lb1 : b < w.heap.size + 1 := by omega
  have lb2 : b < w.heap.size + 1 + 1 := by omega
  have l0 : 0 < w.heap.size := by omega
  have hb0 : ¬ b = 0 := by omega
  have hb0' : ¬ 0 = b := by omega
  have HO := Lib.hid hown
  have HN := Lib.hid hne
  have HL := Lib.hid (World.ownsRow.lt hown)
  have HR := Lib.hid (fun k (hk : (Value.slice a n c).ownBlock = some k) => rowType hown hk)
  have HI := Lib.hid hi0
  have H0 := Lib.hid hz0
  have H1 := Lib.hid hz1
  have H2 := Lib.hid hz2
  clear hown hne hi0 hz0 hz1 hz2
  go_enter Tryd.func21, Tryd.ntmps21
  go_wp2_with fail
  go_region
  all_goals
    go_wp2_with fail
    obtain ⟨W, hW⟩ : ∃ W, W = ((w.alloc (Obj.cells #[.int .u32 0, .int .u32 0] 34)).alloc (Obj.cells #[.int .u32 src, .int .u32 (n : Int)] 34)).drew := ⟨_, rfl⟩
    have HB : Below w.heap.size w W := by rw [hW]; exact (((Below.refl _ _).alloc (Nat.le_refl _) _).alloc (by simp) _).drew
    have ZW : w.heap.size + 2 ≤ W.heap.size := by rw [hW]; simp
    have HO1 := Lib.hid (show W.ownsRow B 222 10 (.slice a n c) n xs from by rw [hW]; exact ((HO.out.alloc _).alloc _).drew)
    have k6 : W.cell? ⟨w.heap.size, 0, none⟩ = some (.int .u32 0) := by rw [hW]; simp [go_sem]
    have k6' : W.cell? ⟨w.heap.size, 1, none⟩ = some (.int .u32 0) := by rw [hW]; simp [go_sem]
    have e6 : W.frozen? ⟨w.heap.size, 0, none⟩ = false := by rw [hW]; simp [go_sem]
    have e6' : W.frozen? ⟨w.heap.size, 1, none⟩ = false := by rw [hW]; simp [go_sem]
    have k7 : W.cell? ⟨w.heap.size + 1, 0, none⟩ = some (.int .u32 src) := by rw [hW]; simp [go_sem]
    have k7' : W.cell? ⟨w.heap.size + 1, 1, none⟩ = some (.int .u32 (n : Int)) := by rw [hW]; simp [go_sem]
    have q66 := kept HB h66
    have q106 := kept HB h106
    have q32 := kept HB h32
    have p0 := kept HB hg0
    have p1 := kept HB hg1
    have r106 := keptF HB h106 f106
    rw [← hW]
    clear hW h66 h106 h32 hg0 hg1 f106 HO
    have lbW : b < W.heap.size := by omega
    have l0W : 0 < W.heap.size := by omega
    have lw0 : w.heap.size < W.heap.size := by omega
    have lw1 : w.heap.size + 1 < W.heap.size := by omega
    have HLT := Lib.hid (show ∀ k, (Value.slice a n c).ownBlock = some k → B ≤ k ∧ k < w.heap.size from HL.out)
    have HNB := Lib.hid (show (Value.slice a n c).ownBlock ≠ some b from fun e => HN.out b e rfl)
    have HN0 := Lib.hid (show (Value.slice a n c).ownBlock ≠ some 0 from fun e => by have := (World.ownsRow.lt HO1.out 0 e).1; omega)
    go_region_law
      ((refine step_append_lies _ (by rfl) _ _ _ (by rfl) B 222 i0 _ 10 48 Tryd.underlying82 HI.out H0.out H1.out H2.out rfl (by omega) (.slice a n c) n xs (by rfl) ((HO1.out.alloc _).drew) ⟨W.heap.size, 0, none⟩ 1 1 (symOf nm kd) (by rfl) (by rfl) (World.news_of_block (cs := (symOf nm kd).toArray) (t := 222) (fr := (0, 0)) (heap_alloc_new W _)) (by simp [symOf, Value.oneCell']) (by omega) (by unfold maxLen; omega) (by omega) (by simp; omega) (W.heap.size + 1) (by simp) ?_; intro gg cap w1 hown1 hgrow hat hlt; have s1 : w1.frozen? ⟨b, 106, none⟩ = false := (by rw [hgrow.frozen_far _ (by simp; try omega) (Ne.symm HNB.out)]; simp [go_sem, *]); have s2 : w1.cell? ⟨b, 106, none⟩ = some (.slice a n c) := (by rw [hgrow.cell_far _ (by simp; try omega) (Ne.symm HNB.out)]; simp [go_sem, *]); have s3 : w1.cell? ⟨0, 0, none⟩ = some (.int .u32 4294967295) := (by rw [hgrow.cell_far _ (by simp; try omega) (Ne.symm HN0.out)]; simp [go_sem, *]); have s4 : w1.cell? ⟨0, 1, none⟩ = some (.int .u32 4294967295) := (by rw [hgrow.cell_far _ (by simp; try omega) (Ne.symm HN0.out)]; simp [go_sem, *])))
    all_goals
      have N6 := Lib.hid (show (Value.slice a n c).ownBlock ≠ some w.heap.size from fun e => by have := (HLT.out _ e).2; omega)
      have N7 := Lib.hid (show (Value.slice a n c).ownBlock ≠ some (w.heap.size + 1) from fun e => by have := (HLT.out _ e).2; omega)
      have t6 : w1.cell? ⟨w.heap.size, 0, none⟩ = some (.int .u32 0) := by rw [hgrow.cell_far _ (by simp; try omega) (Ne.symm N6.out)]; simp [go_sem, *]
      have t6' : w1.cell? ⟨w.heap.size, 1, none⟩ = some (.int .u32 0) := by rw [hgrow.cell_far _ (by simp; try omega) (Ne.symm N6.out)]; simp [go_sem, *]
      have u6 : w1.frozen? ⟨w.heap.size, 0, none⟩ = false := by rw [hgrow.frozen_far _ (by simp; try omega) (Ne.symm N6.out)]; simp [go_sem, *]
      have u6' : w1.frozen? ⟨w.heap.size, 1, none⟩ = false := by rw [hgrow.frozen_far _ (by simp; try omega) (Ne.symm N6.out)]; simp [go_sem, *]
      have t7 : w1.cell? ⟨w.heap.size + 1, 0, none⟩ = some (.int .u32 src) := by rw [hgrow.cell_far _ (by simp; try omega) (Ne.symm N7.out)]; simp [go_sem, *]
      have t7' : w1.cell? ⟨w.heap.size + 1, 1, none⟩ = some (.int .u32 (n : Int)) := by rw [hgrow.cell_far _ (by simp; try omega) (Ne.symm N7.out)]; simp [go_sem, *]
      have t32 : w1.cell? ⟨b, 32, none⟩ = some (.bool false) := by rw [hgrow.cell_far _ (by simp; try omega) (Ne.symm HNB.out)]; simp [go_sem, *]
      have t66 : w1.cell? ⟨b, 66, none⟩ = some (.int .u32 src) := by rw [hgrow.cell_far _ (by simp; try omega) (Ne.symm HNB.out)]; simp [go_sem, *]
      have hgg : gg ≠ b ∧ B ≤ gg ∧ gg ≠ w.heap.size := by
        rcases hat with h | h
        · exact ⟨fun e => HNB.out (by rw [h, e]), (HLT.out _ h).1, fun e => N6.out (by rw [h, e])⟩
        · omega
      obtain ⟨hg1, hg2, hg3⟩ := hgg
      have HO2 := Lib.hid (ownSet (ownSet (ownSet hown1 (k := b) (by simp [Value.ownBlock]; exact hg1) 106 (.slice (some ⟨gg, 0, none⟩) (n + 1) cap)) (k := w.heap.size) (by simp [Value.ownBlock]; exact hg3) 0 (.int .u32 src)) (k := w.heap.size) (by simp [Value.ownBlock]; exact hg3) 1 (.int .u32 (n : Int)))
      have KK := Lib.hid (show Kp b w w1 from fun k hk hkb hty => by
        rw [hgrow.block k (by simp; omega) (fun e => by obtain ⟨cs, hcs⟩ := HR.out k e.symm; exact hty _ _ hcs)]
        show (W.alloc _).heap[k]? = _
        rw [Below.heap_alloc W _ k (by omega)]
        exact HB.block k hk)
      have SB := Lib.hid (show w1.heap[b]? = w.heap[b]? from by
        rw [hgrow.block b (by simp; omega) (fun e => HNB.out e.symm)]
        show (W.alloc _).heap[b]? = _
        rw [Below.heap_alloc W _ b lbW]
        exact HB.block b lb)
      have BB := Lib.hid (show Below B w w1 from Below.grown (Below.drew (Below.alloc (show Below B w W from HB.mono hz) (by omega) _)) hgrow (by simp; try omega) (fun k hk => (HLT.out k hk).1))
      have l1 : w.heap.size < w1.heap.size := World.block_lt_of_cell? _ _ t6
      have x1 : ¬ b = w.heap.size := by omega
      have x2 : ¬ w.heap.size = b := by omega
      have x3 : ¬ b = w.heap.size + 1 := by omega
      have x4 : ¬ w.heap.size + 1 = b := by omega
      clear hown1 hgrow hat q66 q106 q32 p0 p1 k6 k6' k7 k7' e6 e6' r106 HO1 s3 s4
      go_wp2_with fail
      exact bodyPost_ret (v := .agg #[.int .u32 src, .int .u32 (n : Int)]) (by simp [results, Tryd.results21, go_sem, *]) rfl ⟨rfl, ⟨some ⟨gg, 0, none⟩, cap, by simp [go_sem, *], by simp [go_sem, *], by simp [go_sem, *], by simp [go_sem, *], HO2.out, fun k hk => by simp [Value.ownBlock] at hk; omega⟩, (fun k hk hkb hty => by rw [Below.heap_setCell _ _ _ k (by simp; omega), Below.heap_setCell _ _ _ k (by simp; omega), Below.heap_setCell _ _ _ k (by simp; omega)]; exact KK.out k hk hkb hty), ((BB.out.setCell (by simp; omega) _).setCell (by simp; omega) _).setCell (by simp; omega) _, fun o ho => ⟨SBC w w1 b w.heap.size o (by omega) ho SB.out _ _ _, fun hf => SBF w w1 b w.heap.size o (by omega) SB.out hf _ _ _⟩⟩
end NS
end Go.Proofs.YtoblkmnhoiodcaaDoor
