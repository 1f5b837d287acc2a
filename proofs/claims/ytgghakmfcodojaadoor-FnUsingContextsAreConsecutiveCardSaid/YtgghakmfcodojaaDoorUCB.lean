/- Proved here: contracts of the using context's maker, of the readers of the symbol table and of the new parser. Conditions as stated. -/
import Derived.Test.YtgghakmfcodojaaDoorUCA
import Derived.WalkKit
import Derived.WalkSpells
import Derived.WalkLawsBesides
import Derived.Lib.Hide
import Derived.Lib.SliceRun
import Derived.Deep.RegionWith
import Derived.OwnWalk
import Derived.Laws.OwnMore
import Derived.Deep.QuietTactic
import Derived.BigQuiet
namespace Go.Proofs.YtgghakmfcodojaaDoor
open Go.RowKit
set_option linter.unusedSimpArgs false
set_option linter.unusedVariables false

def stackN : ByteArray := ⟨#[95, 115, 116, 97, 99, 107]⟩
theorem PS.alloc {w : World} {B b : Nat} {src : Int} {ts : Bool} {n : Nat} {xs : List Value} (h : PS w B b src ts n xs) (o : Obj) : PS (w.alloc o) B b src ts n xs := by
  obtain ⟨a, c, h66, h106, f106, h32, hown, hne⟩ := h
  have lb : b < w.heap.size := World.block_lt_of_cell? _ _ h66
  exact ⟨a, c, kAlloc h66, kAlloc h106, (World.frozen?_of_block (a := ⟨b, 106, none⟩) (Below.heap_alloc w o b lb)).trans f106, kAlloc h32, World.ownsRow.alloc hown o, hne⟩
theorem PS.of_blocks {w w' : World} {B b : Nat} {src : Int} {ts : Bool} {n : Nat} {xs : List Value} (h : PS w B b src ts n xs) (hb : w'.heap[b]? = w.heap[b]?) (hr : ∀ (k : Nat) (cs : Array Value), w.heap[k]? = some (Obj.cells cs 189 (0, 0)) → w'.heap[k]? = some (Obj.cells cs 189 (0, 0))) : PS w' B b src ts n xs := by
  obtain ⟨a, c, h66, h106, f106, h32, hown, hne⟩ := h
  have hc : ∀ o, w'.cell? ⟨b, o, none⟩ = w.cell? ⟨b, o, none⟩ := fun o => World.cell?_of_block (a := ⟨b, o, none⟩) hb
  refine ⟨a, c, (hc _).trans h66, (hc _).trans h106, (World.frozen?_of_block (a := ⟨b, 106, none⟩) hb).trans f106, (hc _).trans h32, ?_, hne⟩
  obtain ⟨e, h | ⟨g, cap, cur, hv, h1, hg, h2⟩⟩ := hown
  · exact ⟨e, .inl h⟩
  · exact ⟨e, .inr ⟨g, cap, cur, hv, h1, hr g cur hg, h2⟩⟩
def CXP (B b : Nat) (src : Int) (n : Nat) (xs : List Value) (w : World) (e : Ending) (w' : World) : Prop :=
  e = .returned (.agg #[.int .i32 0, .int .u32 src, .int .u32 n, .bool false]) ∧ PS w' B b src false (n + 1) (xs ++ symOf stackN 27) ∧ Kp b w w' ∧ Below B w w'
theorem Kp.trans_alloc {b : Nat} {w w' : World} {o : Obj} (h : Kp b (w.alloc o) w') : Kp b w w' := fun k hk hkb hty => by
  have e := Below.heap_alloc w o k hk
  rw [h k (by simp; omega) hkb (fun cs fr => by rw [e]; exact hty cs fr), e]

set_option maxRecDepth 100000 in
set_option maxHeartbeats 1000000 in
theorem luc (B b : Nat) (src : Int) (n : Nat) (xs : List Value) (w : World) (hB : 0 < B) (hb : B ≤ b) (hn : n ≤ 1000000) (hz : B ≤ w.heap.size) (hg0 : w.cell? ⟨0, 0, none⟩ = some (.int .u32 4294967295)) (hg1 : w.cell? ⟨0, 1, none⟩ = some (.int .u32 4294967295)) (h : PS w B b src false n xs) :
    Calls Tryd.prog 19 #[.pointer (some ⟨b, 0, none⟩)] w (CXP B b src n xs w) := by
  have H := Lib.hid h
  have lb : b < w.heap.size := by obtain ⟨_, _, h66, _⟩ := h; exact World.block_lt_of_cell? _ _ h66
  clear h
  go_enter Tryd.func19, Tryd.ntmps19
  go_wp2_with fail
  refine (newSym B b src n xs stackN 27 _ hB hb hn (by simp; omega) (kAlloc hg0) (kAlloc hg1) (H.out.alloc _)).mono ?_
  rintro e w1 ⟨rfl, hp, hk, hbl⟩
  have hat : (w.alloc (.cells #[.int .i32 0, .int .u32 0, .int .u32 0, .bool false] 58)).heap[w.heap.size]? = some (.cells #[.int .i32 0, .int .u32 0, .int .u32 0, .bool false] 58 (0, 0)) := heap_alloc_new w _
  have hblk := hk.block hat (by omega) (by decide)
  have c0 : w1.cell? ⟨w.heap.size, 0, none⟩ = some (.int .i32 0) := by rw [(hk.cell hat (by omega) (by decide) 0).1]; simp [go_sem]
  have c1 : w1.cell? ⟨w.heap.size, 1, none⟩ = some (.int .u32 0) := by rw [(hk.cell hat (by omega) (by decide) 1).1]; simp [go_sem]
  have c2 : w1.cell? ⟨w.heap.size, 2, none⟩ = some (.int .u32 0) := by rw [(hk.cell hat (by omega) (by decide) 2).1]; simp [go_sem]
  have c3 : w1.cell? ⟨w.heap.size, 3, none⟩ = some (.bool false) := by rw [(hk.cell hat (by omega) (by decide) 3).1]; simp [go_sem]
  have f0 : w1.frozen? ⟨w.heap.size, 0, none⟩ = false := by rw [(hk.cell hat (by omega) (by decide) 0).2]; simp [go_sem]
  have f1 : w1.frozen? ⟨w.heap.size, 1, none⟩ = false := by rw [(hk.cell hat (by omega) (by decide) 1).2]; simp [go_sem]
  have f2 : w1.frozen? ⟨w.heap.size, 2, none⟩ = false := by rw [(hk.cell hat (by omega) (by decide) 2).2]; simp [go_sem]
  have f3 : w1.frozen? ⟨w.heap.size, 3, none⟩ = false := by rw [(hk.cell hat (by omega) (by decide) 3).2]; simp [go_sem]
  have l1 : w.heap.size < w1.heap.size := World.block_lt_of_cell? _ _ c0
  have TY := Lib.hid (show ∃ cs, w1.heap[w.heap.size]? = some (.cells cs 58 (0, 0)) from ⟨_, hblk.trans hat⟩)
  have HP := Lib.hid hp
  have HK := Lib.hid hk.trans_alloc
  have BW := Lib.hid (show Below B w w1 from ((Below.refl B w).alloc hz _).trans hbl)
  clear hat hblk hp hk hbl H
  go_wp2_with fail
  refine bodyPost_ret (v := .agg #[.int .i32 0, .int .u32 src, .int .u32 (n : Int), .bool false]) (by simp [results, Tryd.results19, go_sem, *]) rfl ?_
  obtain ⟨cs, hcs⟩ := TY.out
  refine ⟨rfl, ?_, ?_, ?_⟩
  · refine PS.of_blocks HP.out ?_ (fun k cs' hcs' => ?_)
    · rw [Below.heap_setCell _ _ _ b (by simp; omega), Below.heap_setCell _ _ _ b (by simp; omega), Below.heap_setCell _ _ _ b (by simp; omega), Below.heap_setCell _ _ _ b (by simp; omega)]
    · have hk : k ≠ w.heap.size := by rintro rfl; rw [hcs] at hcs'; cases hcs'
      rw [Below.heap_setCell _ _ _ k (by simp; omega), Below.heap_setCell _ _ _ k (by simp; omega), Below.heap_setCell _ _ _ k (by simp; omega), Below.heap_setCell _ _ _ k (by simp; omega)]
      exact hcs'
  · intro k hk hkb hty
    rw [Below.heap_setCell _ _ _ k (by simp; omega), Below.heap_setCell _ _ _ k (by simp; omega), Below.heap_setCell _ _ _ k (by simp; omega), Below.heap_setCell _ _ _ k (by simp; omega)]
    exact HK.out k hk hkb hty
  · exact (((BW.out.setCell (by simp; omega) _).setCell (by simp; omega) _).setCell (by simp; omega) _).setCell (by simp; omega) _

set_option maxRecDepth 100000 in
set_option maxHeartbeats 1000000 in
theorem znc (B b : Nat) (src : Int) (n : Nat) (xs : List Value) (w : World) (hB : 0 < B) (hb : B ≤ b) (hn : n ≤ 1000000) (hz : B ≤ w.heap.size) (hg0 : w.cell? ⟨0, 0, none⟩ = some (.int .u32 4294967295)) (hg1 : w.cell? ⟨0, 1, none⟩ = some (.int .u32 4294967295)) (h : PS w B b src false n xs) :
    Calls Tryd.prog 13 #[.pointer (some ⟨b, 0, none⟩)] w (CXP B b src n xs w) := by
  have H := Lib.hid h
  have lb : b < w.heap.size := by obtain ⟨_, _, h66, _⟩ := h; exact World.block_lt_of_cell? _ _ h66
  clear h
  go_enter Tryd.func13, Tryd.ntmps13
  go_wp2_with fail
  refine (luc B b src n xs _ hB hb hn (by simp; omega) (kAlloc hg0) (kAlloc hg1) (H.out.alloc _)).mono ?_
  rintro e w1 ⟨rfl, hp, hk, hbl⟩
  have hat : (w.alloc (.cells #[.int .i32 0, .int .u32 0, .int .u32 0, .bool false] 58)).heap[w.heap.size]? = some (.cells #[.int .i32 0, .int .u32 0, .int .u32 0, .bool false] 58 (0, 0)) := heap_alloc_new w _
  have hblk := hk.block hat (by omega) (by decide)
  have c0 : w1.cell? ⟨w.heap.size, 0, none⟩ = some (.int .i32 0) := by rw [(hk.cell hat (by omega) (by decide) 0).1]; simp [go_sem]
  have c1 : w1.cell? ⟨w.heap.size, 1, none⟩ = some (.int .u32 0) := by rw [(hk.cell hat (by omega) (by decide) 1).1]; simp [go_sem]
  have c2 : w1.cell? ⟨w.heap.size, 2, none⟩ = some (.int .u32 0) := by rw [(hk.cell hat (by omega) (by decide) 2).1]; simp [go_sem]
  have c3 : w1.cell? ⟨w.heap.size, 3, none⟩ = some (.bool false) := by rw [(hk.cell hat (by omega) (by decide) 3).1]; simp [go_sem]
  have f0 : w1.frozen? ⟨w.heap.size, 0, none⟩ = false := by rw [(hk.cell hat (by omega) (by decide) 0).2]; simp [go_sem]
  have f1 : w1.frozen? ⟨w.heap.size, 1, none⟩ = false := by rw [(hk.cell hat (by omega) (by decide) 1).2]; simp [go_sem]
  have f2 : w1.frozen? ⟨w.heap.size, 2, none⟩ = false := by rw [(hk.cell hat (by omega) (by decide) 2).2]; simp [go_sem]
  have f3 : w1.frozen? ⟨w.heap.size, 3, none⟩ = false := by rw [(hk.cell hat (by omega) (by decide) 3).2]; simp [go_sem]
  have l1 : w.heap.size < w1.heap.size := World.block_lt_of_cell? _ _ c0
  have TY := Lib.hid (show ∃ cs, w1.heap[w.heap.size]? = some (.cells cs 58 (0, 0)) from ⟨_, hblk.trans hat⟩)
  have HP := Lib.hid hp
  have HK := Lib.hid hk.trans_alloc
  have BW := Lib.hid (show Below B w w1 from ((Below.refl B w).alloc hz _).trans hbl)
  clear hat hblk hp hk hbl H
  go_wp2_with fail
  refine bodyPost_ret (v := .agg #[.int .i32 0, .int .u32 src, .int .u32 (n : Int), .bool false]) (by simp [results, Tryd.results13, go_sem, *]) rfl ?_
  obtain ⟨cs, hcs⟩ := TY.out
  refine ⟨rfl, ?_, ?_, ?_⟩
  · refine PS.of_blocks HP.out ?_ (fun k cs' hcs' => ?_)
    · rw [Below.heap_setCell _ _ _ b (by simp; omega), Below.heap_setCell _ _ _ b (by simp; omega), Below.heap_setCell _ _ _ b (by simp; omega), Below.heap_setCell _ _ _ b (by simp; omega)]
    · have hk : k ≠ w.heap.size := by rintro rfl; rw [hcs] at hcs'; cases hcs'
      rw [Below.heap_setCell _ _ _ k (by simp; omega), Below.heap_setCell _ _ _ k (by simp; omega), Below.heap_setCell _ _ _ k (by simp; omega), Below.heap_setCell _ _ _ k (by simp; omega)]
      exact hcs'
  · intro k hk hkb hty
    rw [Below.heap_setCell _ _ _ k (by simp; omega), Below.heap_setCell _ _ _ k (by simp; omega), Below.heap_setCell _ _ _ k (by simp; omega), Below.heap_setCell _ _ _ k (by simp; omega)]
    exact HK.out k hk hkb hty
  · exact (((BW.out.setCell (by simp; omega) _).setCell (by simp; omega) _).setCell (by simp; omega) _).setCell (by simp; omega) _

def RefP (src : Int) (n : Nat) (w : World) (e : Ending) (w' : World) : Prop := e = .returned (.agg #[.int .u32 src, .int .u32 n]) ∧ Below w.heap.size w w'
set_option maxRecDepth 100000 in
theorem sref (x n : Nat) (src : Int) (w : World) (h1 : w.cell? ⟨x, 1, none⟩ = some (.int .u32 src)) (h2 : w.cell? ⟨x, 2, none⟩ = some (.int .u32 (n : Int))) :
    Calls Tryd.prog 14 #[.pointer (some ⟨x, 0, none⟩)] w (RefP src n w) := by
  have lx : x < w.heap.size := World.block_lt_of_cell? _ _ h1
  go_enter Tryd.func14, Tryd.ntmps14
  go_wp2_with fail
  exact bodyPost_ret (v := .agg #[.int .u32 src, .int .u32 (n : Int)]) (by simp [results, Tryd.results14, go_sem, *]) rfl ⟨rfl, (by repeat (first | with_reducible exact Below.refl _ _ | (with_reducible refine Below.drew ?_) | (with_reducible refine Below.alloc ?_ (by simp; try omega) _) | (with_reducible refine Below.setCell ?_ (by simp; try omega) _)))⟩
set_option maxRecDepth 100000 in
theorem scount (B b : Nat) (src : Int) (ts : Bool) (n : Nat) (xs : List Value) (w : World) (h : PS w B b src ts n xs) :
    Calls Tryd.prog 15 #[.pointer (some ⟨b, 0, none⟩)] w fun e w' => e = .returned (.int .i64 n) ∧ w = w' := by
  obtain ⟨a, c, _, h106, _⟩ := h
  go_enter Tryd.func15, Tryd.ntmps15
  go_wp2_with fail
  go_ret
  exact ⟨rfl, rfl⟩
set_option maxRecDepth 100000 in
set_option maxHeartbeats 1000000 in
theorem sname (B b : Nat) (src : Int) (ts : Bool) (n k : Nat) (xs : List Value) (nm : ByteArray) (w : World) (h : PS w B b src ts n xs) (hk : k < n) (hn : n ≤ 1000000) (hx : xs[k * 10 + 1]? = some (.string nm)) :
    Calls Tryd.prog 16 #[.pointer (some ⟨b, 0, none⟩), .agg #[.int .u32 src, .int .u32 (k : Int)]] w fun e w' => e = .returned (.string nm) ∧ Below w.heap.size w w' := by
  obtain ⟨a, c, h66, h106, _, _, hown, _⟩ := h
  obtain ⟨g, c', e⟩ : ∃ g c', (Value.slice a n c) = .slice (some ⟨g, 0, none⟩) n c' := by
    obtain ⟨_, ⟨e, rfl⟩ | ⟨g, cap, cur, e, _⟩⟩ := hown
    · omega
    · exact ⟨g, cap, e⟩
  simp only [Value.slice.injEq] at e
  obtain ⟨rfl, _, rfl⟩ := e
  have hcell : w.cell? ⟨g, k * 10 + 1, none⟩ = some (.string nm) := by
    rw [World.ownsRow.cellAt hown (k * 10 + 1) (by omega)]; exact hx
  have lb : b < w.heap.size := World.block_lt_of_cell? _ _ h66
  have lg : g < w.heap.size := World.block_lt_of_cell? _ _ hcell
  clear hown hx h66
  go_enter Tryd.func16, Tryd.ntmps16
  go_wp2_with fail
  go_quiet (fail)
  go_wp2_with fail
  go_ret
  exact ⟨rfl, below_drewN ((Below.refl _ _).alloc (Nat.le_refl _) _) _⟩
end Go.Proofs.YtgghakmfcodojaaDoor
