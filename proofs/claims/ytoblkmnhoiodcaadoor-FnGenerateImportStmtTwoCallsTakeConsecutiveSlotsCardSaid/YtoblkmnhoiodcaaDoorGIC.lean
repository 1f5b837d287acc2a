/- Proved here: the contract of addImportRecord and of the readers of the record table. Conditions: the parser's cells, the table owned, as stated. -/
import Derived.Test.YtoblkmnhoiodcaaDoorBase
import Derived.WalkKit
import Derived.WalkSpells
import Derived.WalkLawsBesides
import Derived.Lib.Hide
import Derived.Lib.SliceRun
import Derived.Deep.RegionWith
import Derived.OwnWalk
import Derived.Deep.RegionLaw
import Derived.Deep.AppendLies
import Derived.StillTactics
import Derived.Laws.OwnMore
namespace Go.Proofs.YtoblkmnhoiodcaaDoor
namespace AI
open Go.RowKit
set_option linter.unusedSimpArgs false
set_option linter.unusedVariables false

theorem info77 : (Tryd.prog.info? 77).map (fun i => (i.zero, i.size, i.bytes)) = some (some (.agg #[.pointer none, .pointer none, .string ⟨#[]⟩, .string ⟨#[]⟩, .string ⟨#[]⟩, .string ⟨#[]⟩, .int .u8 0, .int .i32 0, .int .i32 0, .int .i32 0, .int .u32 0, .int .u32 0, .int .u16 0, .int .u8 0, .int .u8 0]), 15, 112) := by kernel_rfl
def rec1 (A : Option Addr) (tx : ByteArray) (st ln fl ph kd : Int) : List Value := [.pointer A, .pointer none, .string tx, .string ⟨#[]⟩, .string ⟨#[]⟩, .string ⟨#[]⟩, .int .u8 0, .int .i32 st, .int .i32 ln, .int .i32 0, .int .u32 0, .int .u32 0, .int .u16 fl, .int .u8 ph, .int .u8 kd]
/-- The parser at block b holds n import records, the cells xs. -/
def PR (w : World) (B b n : Nat) (xs : List Value) : Prop :=
  ∃ a c, w.cell? ⟨b, 169, none⟩ = some (.slice a n c) ∧ w.frozen? ⟨b, 169, none⟩ = false ∧ w.ownsRow B 77 15 (.slice a n c) n xs ∧ (∀ k, (Value.slice a n c).ownBlock = some k → k ≠ b)
/-- Every block but b and the rows of records is as it was. -/
def Kp (b : Nat) (w w' : World) : Prop := ∀ k, k < w.heap.size → k ≠ b → (∀ cs fr, w.heap[k]? ≠ some (.cells cs 77 fr)) → w'.heap[k]? = w.heap[k]?
theorem Kp.block {b k : Nat} {w w' : World} (h : Kp b w w') {cs : Array Value} {t : TypeId} {fr : Nat × Nat} (hk : w.heap[k]? = some (.cells cs t fr)) (hb : k ≠ b) (ht : t ≠ 77) : w'.heap[k]? = w.heap[k]? :=
  h k (Array.getElem?_eq_some_iff.1 hk).1 hb (fun cs' fr' e => by rw [hk] at e; simp only [Option.some.injEq, Obj.cells.injEq] at e; exact ht e.2.1)
theorem Kp.at {b k : Nat} {w w' : World} (h : Kp b w w') {cs : Array Value} {t : TypeId} (hk : At w k t cs) (hb : k ≠ b) (ht : t ≠ 77) : At w' k t cs := (h.block (fr := (0, 0)) hk hb ht).trans hk
theorem rowType {w : World} {B : Nat} {e : TypeId} {sz : Nat} {v : Value} {n : Nat} {xs : List Value} (h : w.ownsRow B e sz v n xs) {k : Nat} (hk : v.ownBlock = some k) : ∃ cs, w.heap[k]? = some (.cells cs e (0, 0)) := by
  obtain ⟨_, ⟨rfl, _⟩ | ⟨g, cap, cur, rfl, _, hg, _⟩⟩ := h
  · cases hk
  · simp only [Value.ownBlock, Option.some.injEq] at hk
    subst hk
    exact ⟨cur, hg⟩
theorem ownSet {w : World} {B : Nat} {e : TypeId} {sz : Nat} {v : Value} {n : Nat} {xs : List Value} (h : w.ownsRow B e sz v n xs) {k : Nat} (hne : v.ownBlock ≠ some k) (i : Nat) (u : Value) : (w.setCell ⟨k, i, none⟩ u).ownsRow B e sz v n xs :=
  World.ownsRow.kept (row := some k) h ⟨by simp [World.setCell], by simp [World.setCell], by simp [World.setCell], by simp [World.setCell], fun j _ hj => Below.heap_setCell w ⟨k, i, none⟩ u j (fun e => hj (by rw [e]))⟩ (.inr hne)
/-- Block b but for the table's cell is as it was. -/
def Sb (b : Nat) (w w' : World) : Prop := ∀ o, o ≠ 169 → w'.cell? ⟨b, o, none⟩ = w.cell? ⟨b, o, none⟩ ∧ (w.frozen? ⟨b, o, none⟩ = false → w'.frozen? ⟨b, o, none⟩ = false)
theorem SBC (w w1 : World) (b o : Nat) (ho : o ≠ 169) (h : w1.heap[b]? = w.heap[b]?) (u : Value) : (w1.setCell ⟨b, 169, none⟩ u).cell? ⟨b, o, none⟩ = w.cell? ⟨b, o, none⟩ := by
  rw [World.cell?_setCell_other _ _ _ _ (by intro e; injection e with _ e1 _; exact ho (by omega))]
  exact World.cell?_of_block (a := ⟨b, o, none⟩) h
theorem SBF (w w1 : World) (b o : Nat) (h : w1.heap[b]? = w.heap[b]?) (hf : w.frozen? ⟨b, o, none⟩ = false) (u : Value) : (w1.setCell ⟨b, 169, none⟩ u).frozen? ⟨b, o, none⟩ = false := by
  simp [go_sem]
  rw [World.frozen?_of_block (a := ⟨b, o, none⟩) h]
  exact hf
def ARP (B b n : Nat) (xs : List Value) (A : Option Addr) (tx : ByteArray) (st ln fl ph kd : Int) (w : World) (e : Ending) (w' : World) : Prop :=
  e = .returned (.int .u32 n) ∧ PR w' B b (n + 1) (xs ++ rec1 A tx st ln fl ph kd) ∧ Kp b w w' ∧ Below B w w' ∧ Sb b w w'
set_option maxRecDepth 100000 in
set_option maxHeartbeats 4000000 in
theorem addRec (B b n : Nat) (xs : List Value) (A : Option Addr) (tx : ByteArray) (st ln fl ph kd : Int) (w : World) (hb : B ≤ b) (hn : n ≤ 1000000) (hz : B ≤ w.heap.size) (h : PR w B b n xs) :
    Calls Tryd.prog 23 #[.pointer (some ⟨b, 0, none⟩), .int .u8 kd, .int .u8 ph, .agg #[.int .i32 st, .int .i32 ln], .string tx, .pointer A, .int .u16 fl] w (ARP B b n xs A tx st ln fl ph kd w) := by
  obtain ⟨i0, hi0, hz0, hz1, hz2⟩ := info_parts info77
  obtain ⟨a, c, h169, f169, hown, hne⟩ := h
  have lb : b < w.heap.size := World.block_lt_of_cell? _ _ h169
  have lb1 : b < w.heap.size + 1 := by omega
  have HO := Lib.hid hown
  have HL := Lib.hid (World.ownsRow.lt hown)
  have HR := Lib.hid (fun k (hk : (Value.slice a n c).ownBlock = some k) => rowType hown hk)
  have HN := Lib.hid hne
  have HI := Lib.hid hi0
  have H0 := Lib.hid hz0
  have H1 := Lib.hid hz1
  have H2 := Lib.hid hz2
  clear hown hne hi0 hz0 hz1 hz2
  go_enter Tryd.func23, Tryd.ntmps23
  go_wp2_with fail
  obtain ⟨W, hW⟩ : ∃ W, W = w.alloc (Obj.cells #[.int .i32 st, .int .i32 ln] 45) := ⟨_, rfl⟩
  have HB : Below w.heap.size w W := by rw [hW]; exact (Below.refl _ _).alloc (Nat.le_refl _) _
  have ZW : w.heap.size + 1 ≤ W.heap.size := by rw [hW]; simp
  have HO1 := Lib.hid (show W.ownsRow B 77 15 (.slice a n c) n xs from by rw [hW]; exact HO.out.alloc _)
  have k6 : W.cell? ⟨w.heap.size, 0, none⟩ = some (.int .i32 st) := by rw [hW]; simp [go_sem]
  have k6' : W.cell? ⟨w.heap.size, 1, none⟩ = some (.int .i32 ln) := by rw [hW]; simp [go_sem]
  have q169 := kept HB h169
  have r169 := keptF HB h169 f169
  rw [← hW]
  clear hW h169 f169 HO
  have lbW : b < W.heap.size := by omega
  have lw0 : w.heap.size < W.heap.size := by omega
  have HNB := Lib.hid (show (Value.slice a n c).ownBlock ≠ some b from fun e => HN.out b e rfl)
  go_region_law ((refine step_append_lies _ (by rfl) _ _ _ (by rfl) B 77 i0 _ 15 112 Tryd.underlying38 HI.out H0.out H1.out H2.out rfl (by omega) (.slice a n c) n xs (by rfl) ((HO1.out.alloc _).drew) ⟨W.heap.size, 0, none⟩ 1 1 (rec1 A tx st ln fl ph kd) (by rfl) (by rfl) (World.news_of_block (cs := (rec1 A tx st ln fl ph kd).toArray) (t := 77) (fr := (0, 0)) (heap_alloc_new W _)) (by simp [rec1, Value.oneCell']) (by omega) (by unfold maxLen; omega) (by omega) (by simp; omega) (W.heap.size + 1) (by simp) ?_; intro gg cap w1 hown1 hgrow hat hlt; have s1 : w1.frozen? ⟨b, 169, none⟩ = false := (by rw [hgrow.frozen_far _ (by simp; try omega) (Ne.symm HNB.out)]; simp [go_sem, *]); have s2 : w1.cell? ⟨b, 169, none⟩ = some (.slice a n c) := (by rw [hgrow.cell_far _ (by simp; try omega) (Ne.symm HNB.out)]; simp [go_sem, *])))
  all_goals
    have hgg : gg ≠ b ∧ B ≤ gg := by
      rcases hat with h | h
      · exact ⟨fun e => HNB.out (by rw [h, e]), (HL.out _ h).1⟩
      · omega
    obtain ⟨hg1, hg2⟩ := hgg
    have HO2 := Lib.hid (ownSet hown1 (k := b) (by simp [Value.ownBlock]; exact hg1) 169 (.slice (some ⟨gg, 0, none⟩) (n + 1) cap))
    have KK := Lib.hid (show Kp b w w1 from fun k hk hkb hty => by
      rw [hgrow.block k (by simp; omega) (fun e => by obtain ⟨cs, hcs⟩ := HR.out k e.symm; exact hty _ _ hcs)]
      show (W.alloc _).heap[k]? = _
      rw [Below.heap_alloc W _ k (by omega)]
      exact HB.block k hk)
    have SB := Lib.hid (show w1.heap[b]? = w.heap[b]? from by
      rw [hgrow.block b (by simp; omega) (fun e => HNB.out e.symm)]
      show (W.alloc _).heap[b]? = _
      rw [Below.heap_alloc W _ b lbW]
      exact HB.block b lb)
    have BB := Lib.hid (show Below B w w1 from Below.grown (Below.drew (Below.alloc (show Below B w W from HB.mono hz) (by omega) _)) hgrow (by simp; try omega) (fun k hk => (HL.out k hk).1))
    clear hown1 hgrow hat q169 k6 k6' r169 HO1
    go_wp2_with fail
    go_ret
    exact ⟨rfl, ⟨some ⟨gg, 0, none⟩, cap, by simp [go_sem, *], by simp [go_sem, *], HO2.out, fun k hk => by simp [Value.ownBlock] at hk; omega⟩, (fun k hk hkb hty => by rw [Below.heap_setCell _ _ _ k (by simp; omega)]; exact KK.out k hk hkb hty), BB.out.setCell (by simp; omega) _, fun o ho => ⟨SBC w w1 b o ho SB.out _, fun hf => SBF w w1 b o SB.out hf _⟩⟩
end AI
end Go.Proofs.YtoblkmnhoiodcaaDoor
