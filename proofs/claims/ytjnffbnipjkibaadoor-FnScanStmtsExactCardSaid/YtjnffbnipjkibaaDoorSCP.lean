/- Proved here: contracts of the using context's maker, of the symbol count, of the new parser. Conditions as stated. -/
import Derived.Test.YtjnffbnipjkibaaDoorSCA
import Derived.Test.YtjnffbnipjkibaaDoorSCB
import Derived.WalkKit
import Derived.WalkSpells
import Derived.WalkLawsBesides
import Derived.Lib.Hide
import Derived.Lib.SliceRun
import Derived.Deep.RegionWith
import Derived.OwnWalk
import Derived.Laws.OwnMore
import Derived.Carry
namespace Go.Proofs.YtjnffbnipjkibaaDoor
open Go.RowKit
set_option linter.unusedSimpArgs false
set_option linter.unusedVariables false

def stackN : ByteArray := ⟨#[95, 115, 116, 97, 99, 107]⟩
theorem PS.alloc {w : World} {B b : Nat} {src : Int} {ts : Bool} {n : Nat} {xs : List Value} (h : PS w B b src ts n xs) (o : Obj) : PS (w.alloc o) B b src ts n xs := by
  obtain ⟨a, c, h66, h106, f106, h32, hown, hne⟩ := h
  have lb : b < w.heap.size := World.block_lt_of_cell? _ _ h66
  exact ⟨a, c, kAlloc h66, kAlloc h106, (World.frozen?_of_block (a := ⟨b, 106, none⟩) (Below.heap_alloc w o b lb)).trans f106, kAlloc h32, World.ownsRow.alloc hown o, hne⟩
theorem PS.of_blocks {w w' : World} {B b : Nat} {src : Int} {ts : Bool} {n : Nat} {xs : List Value} (h : PS w B b src ts n xs) (hb : w'.heap[b]? = w.heap[b]?) (hr : ∀ (k : Nat) (cs : Array Value), w.heap[k]? = some (Obj.cells cs 212 (0, 0)) → w'.heap[k]? = some (Obj.cells cs 212 (0, 0))) : PS w' B b src ts n xs := by
  obtain ⟨a, c, h66, h106, f106, h32, hown, hne⟩ := h
  have hc : ∀ o, w'.cell? ⟨b, o, none⟩ = w.cell? ⟨b, o, none⟩ := fun o => World.cell?_of_block (a := ⟨b, o, none⟩) hb
  refine ⟨a, c, (hc _).trans h66, (hc _).trans h106, (World.frozen?_of_block (a := ⟨b, 106, none⟩) hb).trans f106, (hc _).trans h32, ?_, hne⟩
  obtain ⟨e, h | ⟨g, cap, cur, hv, h1, hg, h2⟩⟩ := hown
  · exact ⟨e, .inl h⟩
  · exact ⟨e, .inr ⟨g, cap, cur, hv, h1, hr g cur hg, h2⟩⟩
theorem PS.below {w w' : World} {B b : Nat} {src : Int} {ts : Bool} {n : Nat} {xs : List Value} (h : PS w B b src ts n xs) (hb : Below w.heap.size w w') : PS w' B b src ts n xs := by
  have lb : b < w.heap.size := by obtain ⟨_, _, h66, _⟩ := h; exact World.block_lt_of_cell? _ _ h66
  exact PS.of_blocks h (hb.block b lb) (fun k cs hk => (hb.block k (Array.getElem?_eq_some_iff.1 hk).1).trans hk)
def CXP (B b : Nat) (src : Int) (n : Nat) (xs : List Value) (w : World) (e : Ending) (w' : World) : Prop :=
  e = .returned (.agg #[.int .i32 0, .int .u32 src, .int .u32 n, .bool false]) ∧ PS w' B b src false (n + 1) (xs ++ symOf stackN 27) ∧ Kp b w w' ∧ Below B w w' ∧ Sb b w w'
theorem Kp.trans_alloc {b : Nat} {w w' : World} {o : Obj} (h : Kp b (w.alloc o) w') : Kp b w w' := fun k hk hkb hty => by
  have e := Below.heap_alloc w o k hk
  rw [h k (by simp; omega) hkb (fun cs fr => by rw [e]; exact hty cs fr), e]

set_option maxRecDepth 100000 in
set_option maxHeartbeats 1000000 in
theorem luc (B b : Nat) (src : Int) (n : Nat) (xs : List Value) (w : World) (hB : 0 < B) (hb : B ≤ b) (hn : n ≤ 1000000) (hz : B ≤ w.heap.size) (hg0 : w.cell? ⟨0, 0, none⟩ = some (.int .u32 4294967295)) (hg1 : w.cell? ⟨0, 1, none⟩ = some (.int .u32 4294967295)) (h : PS w B b src false n xs) :
    Calls Tryd.prog 30 #[.pointer (some ⟨b, 0, none⟩)] w (CXP B b src n xs w) := by
  have H := Lib.hid h
  have lb : b < w.heap.size := by obtain ⟨_, _, h66, _⟩ := h; exact World.block_lt_of_cell? _ _ h66
  clear h
  go_enter Tryd.func30, Tryd.ntmps30
  go_wp2_with fail
  refine (newSym B b src n xs stackN 27 _ hB hb hn (by simp; omega) (kAlloc hg0) (kAlloc hg1) (H.out.alloc _)).mono ?_
  rintro e w1 ⟨rfl, hp, hk, hbl, hs⟩
  have hat : (w.alloc (.cells #[.int .i32 0, .int .u32 0, .int .u32 0, .bool false] 53)).heap[w.heap.size]? = some (.cells #[.int .i32 0, .int .u32 0, .int .u32 0, .bool false] 53 (0, 0)) := heap_alloc_new w _
  have hblk := hk.block hat (by omega) (by decide)
  have c0 : w1.cell? ⟨w.heap.size, 0, none⟩ = some (.int .i32 0) := by rw [(hk.cell hat (by omega) (by decide) 0).1]; simp [go_sem]
  have c1 : w1.cell? ⟨w.heap.size, 1, none⟩ = some (.int .u32 0) := by rw [(hk.cell hat (by omega) (by decide) 1).1]; simp [go_sem]
  have c2 : w1.cell? ⟨w.heap.size, 2, none⟩ = some (.int .u32 0) := by rw [(hk.cell hat (by omega) (by decide) 2).1]; simp [go_sem]
  have c3 : w1.cell? ⟨w.heap.size, 3, none⟩ = some (.bool false) := by rw [(hk.cell hat (by omega) (by decide) 3).1]; simp [go_sem]
  have f0 : w1.frozen? ⟨w.heap.size, 0, none⟩ = false := by rw [(hk.cell hat (by omega) (by decide) 0).2]; simp [go_sem]
  have f1 : w1.frozen? ⟨w.heap.size, 1, none⟩ = false := by rw [(hk.cell hat (by omega) (by decide) 1).2]; simp [go_sem]
  have f2 : w1.frozen? ⟨w.heap.size, 2, none⟩ = false := by rw [(hk.cell hat (by omega) (by decide) 2).2]; simp [go_sem]
  have f3 : w1.frozen? ⟨w.heap.size, 3, none⟩ = false := by rw [(hk.cell hat (by omega) (by decide) 3).2]; simp [go_sem]
  have l1 : w.heap.size < w1.heap.size := World.block_lt_of_cell? _ _ c0
  have TY := Lib.hid (show ∃ cs, w1.heap[w.heap.size]? = some (.cells cs 53 (0, 0)) from ⟨_, hblk.trans hat⟩)
  have HP := Lib.hid hp
  have HK := Lib.hid hk.trans_alloc
  have HS := Lib.hid (show Sb b w w1 from fun o ho => ⟨((hs o ho).1).trans (World.cell?_of_block (a := ⟨b, o, none⟩) (Below.heap_alloc w _ b lb)), fun hf => (hs o ho).2 ((World.frozen?_of_block (a := ⟨b, o, none⟩) (Below.heap_alloc w _ b lb)).trans hf)⟩)
  have BW := Lib.hid (show Below B w w1 from ((Below.refl B w).alloc hz _).trans hbl)
  clear hat hblk hp hk hbl H hs
  go_wp2_with fail
  refine bodyPost_ret (v := .agg #[.int .i32 0, .int .u32 src, .int .u32 (n : Int), .bool false]) (by simp [results, Tryd.results30, go_sem, *]) rfl ?_
  obtain ⟨cs, hcs⟩ := TY.out
  refine ⟨rfl, ?_, ?_, ?_, ?_⟩
  · refine PS.of_blocks HP.out ?_ (fun k cs' hcs' => ?_)
    · rw [Below.heap_setCell _ _ _ b (by simp; omega), Below.heap_setCell _ _ _ b (by simp; omega), Below.heap_setCell _ _ _ b (by simp; omega), Below.heap_setCell _ _ _ b (by simp; omega)]
    · have hk : k ≠ w.heap.size := by rintro rfl; rw [hcs] at hcs'; cases hcs'
      rw [Below.heap_setCell _ _ _ k (by simp; omega), Below.heap_setCell _ _ _ k (by simp; omega), Below.heap_setCell _ _ _ k (by simp; omega), Below.heap_setCell _ _ _ k (by simp; omega)]
      exact hcs'
  · intro k hk hkb hty
    rw [Below.heap_setCell _ _ _ k (by simp; omega), Below.heap_setCell _ _ _ k (by simp; omega), Below.heap_setCell _ _ _ k (by simp; omega), Below.heap_setCell _ _ _ k (by simp; omega)]
    exact HK.out k hk hkb hty
  · exact (((BW.out.setCell (by simp; omega) _).setCell (by simp; omega) _).setCell (by simp; omega) _).setCell (by simp; omega) _
  · intro o ho
    have e : ∀ (W : World) (i : Nat) (v : Value), (W.setCell ⟨w.heap.size, i, none⟩ v).heap[b]? = W.heap[b]? := fun W i v => Below.heap_setCell _ _ _ b (by simp; omega)
    refine ⟨?_, fun hf => ?_⟩
    · rw [World.cell?_of_block (a := ⟨b, o, none⟩) (e _ _ _), World.cell?_of_block (a := ⟨b, o, none⟩) (e _ _ _), World.cell?_of_block (a := ⟨b, o, none⟩) (e _ _ _), World.cell?_of_block (a := ⟨b, o, none⟩) (e _ _ _)]
      exact (HS.out o ho).1
    · rw [World.frozen?_of_block (a := ⟨b, o, none⟩) (e _ _ _), World.frozen?_of_block (a := ⟨b, o, none⟩) (e _ _ _), World.frozen?_of_block (a := ⟨b, o, none⟩) (e _ _ _), World.frozen?_of_block (a := ⟨b, o, none⟩) (e _ _ _)]
      exact (HS.out o ho).2 hf

set_option maxRecDepth 100000 in
set_option maxHeartbeats 1000000 in
theorem znc (B b : Nat) (src : Int) (n : Nat) (xs : List Value) (w : World) (hB : 0 < B) (hb : B ≤ b) (hn : n ≤ 1000000) (hz : B ≤ w.heap.size) (hg0 : w.cell? ⟨0, 0, none⟩ = some (.int .u32 4294967295)) (hg1 : w.cell? ⟨0, 1, none⟩ = some (.int .u32 4294967295)) (h : PS w B b src false n xs) :
    Calls Tryd.prog 17 #[.pointer (some ⟨b, 0, none⟩)] w (CXP B b src n xs w) := by
  have H := Lib.hid h
  have lb : b < w.heap.size := by obtain ⟨_, _, h66, _⟩ := h; exact World.block_lt_of_cell? _ _ h66
  clear h
  go_enter Tryd.func17, Tryd.ntmps17
  go_wp2_with fail
  refine (luc B b src n xs _ hB hb hn (by simp; omega) (kAlloc hg0) (kAlloc hg1) (H.out.alloc _)).mono ?_
  rintro e w1 ⟨rfl, hp, hk, hbl, hs⟩
  have hat : (w.alloc (.cells #[.int .i32 0, .int .u32 0, .int .u32 0, .bool false] 53)).heap[w.heap.size]? = some (.cells #[.int .i32 0, .int .u32 0, .int .u32 0, .bool false] 53 (0, 0)) := heap_alloc_new w _
  have hblk := hk.block hat (by omega) (by decide)
  have c0 : w1.cell? ⟨w.heap.size, 0, none⟩ = some (.int .i32 0) := by rw [(hk.cell hat (by omega) (by decide) 0).1]; simp [go_sem]
  have c1 : w1.cell? ⟨w.heap.size, 1, none⟩ = some (.int .u32 0) := by rw [(hk.cell hat (by omega) (by decide) 1).1]; simp [go_sem]
  have c2 : w1.cell? ⟨w.heap.size, 2, none⟩ = some (.int .u32 0) := by rw [(hk.cell hat (by omega) (by decide) 2).1]; simp [go_sem]
  have c3 : w1.cell? ⟨w.heap.size, 3, none⟩ = some (.bool false) := by rw [(hk.cell hat (by omega) (by decide) 3).1]; simp [go_sem]
  have f0 : w1.frozen? ⟨w.heap.size, 0, none⟩ = false := by rw [(hk.cell hat (by omega) (by decide) 0).2]; simp [go_sem]
  have f1 : w1.frozen? ⟨w.heap.size, 1, none⟩ = false := by rw [(hk.cell hat (by omega) (by decide) 1).2]; simp [go_sem]
  have f2 : w1.frozen? ⟨w.heap.size, 2, none⟩ = false := by rw [(hk.cell hat (by omega) (by decide) 2).2]; simp [go_sem]
  have f3 : w1.frozen? ⟨w.heap.size, 3, none⟩ = false := by rw [(hk.cell hat (by omega) (by decide) 3).2]; simp [go_sem]
  have l1 : w.heap.size < w1.heap.size := World.block_lt_of_cell? _ _ c0
  have TY := Lib.hid (show ∃ cs, w1.heap[w.heap.size]? = some (.cells cs 53 (0, 0)) from ⟨_, hblk.trans hat⟩)
  have HP := Lib.hid hp
  have HK := Lib.hid hk.trans_alloc
  have HS := Lib.hid (show Sb b w w1 from fun o ho => ⟨((hs o ho).1).trans (World.cell?_of_block (a := ⟨b, o, none⟩) (Below.heap_alloc w _ b lb)), fun hf => (hs o ho).2 ((World.frozen?_of_block (a := ⟨b, o, none⟩) (Below.heap_alloc w _ b lb)).trans hf)⟩)
  have BW := Lib.hid (show Below B w w1 from ((Below.refl B w).alloc hz _).trans hbl)
  clear hat hblk hp hk hbl H hs
  go_wp2_with fail
  refine bodyPost_ret (v := .agg #[.int .i32 0, .int .u32 src, .int .u32 (n : Int), .bool false]) (by simp [results, Tryd.results17, go_sem, *]) rfl ?_
  obtain ⟨cs, hcs⟩ := TY.out
  refine ⟨rfl, ?_, ?_, ?_, ?_⟩
  · refine PS.of_blocks HP.out ?_ (fun k cs' hcs' => ?_)
    · rw [Below.heap_setCell _ _ _ b (by simp; omega), Below.heap_setCell _ _ _ b (by simp; omega), Below.heap_setCell _ _ _ b (by simp; omega), Below.heap_setCell _ _ _ b (by simp; omega)]
    · have hk : k ≠ w.heap.size := by rintro rfl; rw [hcs] at hcs'; cases hcs'
      rw [Below.heap_setCell _ _ _ k (by simp; omega), Below.heap_setCell _ _ _ k (by simp; omega), Below.heap_setCell _ _ _ k (by simp; omega), Below.heap_setCell _ _ _ k (by simp; omega)]
      exact hcs'
  · intro k hk hkb hty
    rw [Below.heap_setCell _ _ _ k (by simp; omega), Below.heap_setCell _ _ _ k (by simp; omega), Below.heap_setCell _ _ _ k (by simp; omega), Below.heap_setCell _ _ _ k (by simp; omega)]
    exact HK.out k hk hkb hty
  · exact (((BW.out.setCell (by simp; omega) _).setCell (by simp; omega) _).setCell (by simp; omega) _).setCell (by simp; omega) _
  · intro o ho
    have e : ∀ (W : World) (i : Nat) (v : Value), (W.setCell ⟨w.heap.size, i, none⟩ v).heap[b]? = W.heap[b]? := fun W i v => Below.heap_setCell _ _ _ b (by simp; omega)
    refine ⟨?_, fun hf => ?_⟩
    · rw [World.cell?_of_block (a := ⟨b, o, none⟩) (e _ _ _), World.cell?_of_block (a := ⟨b, o, none⟩) (e _ _ _), World.cell?_of_block (a := ⟨b, o, none⟩) (e _ _ _), World.cell?_of_block (a := ⟨b, o, none⟩) (e _ _ _)]
      exact (HS.out o ho).1
    · rw [World.frozen?_of_block (a := ⟨b, o, none⟩) (e _ _ _), World.frozen?_of_block (a := ⟨b, o, none⟩) (e _ _ _), World.frozen?_of_block (a := ⟨b, o, none⟩) (e _ _ _), World.frozen?_of_block (a := ⟨b, o, none⟩) (e _ _ _)]
      exact (HS.out o ho).2 hf

set_option maxRecDepth 100000 in
theorem scount (B b : Nat) (src : Int) (ts : Bool) (n : Nat) (xs : List Value) (w : World) (h : PS w B b src ts n xs) :
    Calls Tryd.prog 18 #[.pointer (some ⟨b, 0, none⟩)] w fun e w' => e = .returned (.int .i64 n) ∧ w = w' := by
  obtain ⟨a, c, _, h106, _⟩ := h
  go_enter Tryd.func18, Tryd.ntmps18
  go_wp2_with fail
  go_ret
  exact ⟨rfl, rfl⟩
noncomputable def pz (s c m p q b : Value) : Array Value := ((((((zeroOf Tryd.prog 195).setIfInBounds 106 s).setIfInBounds 104 c).setIfInBounds 187 m).setIfInBounds 105 p).setIfInBounds 117 q).setIfInBounds 352 b
theorem pz_size (s c m p q b : Value) : (pz s c m p q b).size = 353 := by kernel_rfl
attribute [local go_sem] pz_size
theorem build195 (a : Option Addr) (n c : Nat) (p7 p58 p8 : Option Addr) (x : Option Nat) (b : Bool) (w : World) : (Instr.build 195 #[(9, .slice a n c), (7, .pointer p7), (58, .pointer p58), (8, .pointer p8), (20, .map x), (110, .bool b)]).run Tryd.prog w = .ok (.agg (pz (.slice a n c) (.pointer p7) (.pointer p58) (.pointer p8) (.map x) (.bool b))) w := by kernel_rfl
theorem wpList_run0 {P : Program} {ops : Array Oper} {rest : List Oper} {o : Oper} {a : Act} {w : World} {Q : Exit → Act → World → Prop} (hgd : o.guard = none) (v : Value)
    (hr : (execOp a.eval o).run P w = .ok (.value v) w) (h : wpList P ops Q rest (a.put o.dst v) w) : wpList P ops Q (o :: rest) a w := wpList_run hgd v w hr h
/-- The parser's settings. -/
def PF (w : World) (b : Nat) (f mode : Int) (mini wrap : Bool) (c : Nat) : Prop := w.cell? ⟨b, 23, none⟩ = some (.int .u64 f) ∧ w.cell? ⟨b, 34, none⟩ = some (.int .u8 mode) ∧ w.cell? ⟨b, 41, none⟩ = some (.bool mini) ∧ w.cell? ⟨b, 352, none⟩ = some (.bool wrap) ∧ w.cell? ⟨b, 104, none⟩ = some (.pointer (some ⟨c, 0, none⟩))
theorem PF.below {w w' : World} {b : Nat} {f mode : Int} {mini wrap : Bool} {c : Nat} (h : PF w b f mode mini wrap c) (hb : Below w.heap.size w w') : PF w' b f mode mini wrap c := ⟨kept hb h.1, kept hb h.2.1, kept hb h.2.2.1, kept hb h.2.2.2.1, kept hb h.2.2.2.2⟩
theorem PF.sb {w w' : World} {b : Nat} {f mode : Int} {mini wrap : Bool} {c : Nat} (h : PF w b f mode mini wrap c) (hb : Sb b w w') : PF w' b f mode mini wrap c := ⟨((hb _ (by decide)).1).trans h.1, ((hb _ (by decide)).1).trans h.2.1, ((hb _ (by decide)).1).trans h.2.2.1, ((hb _ (by decide)).1).trans h.2.2.2.1, ((hb _ (by decide)).1).trans h.2.2.2.2⟩
def NPP (f mode : Int) (mini wrap : Bool) (c : Nat) (w : World) (e : Ending) (w' : World) : Prop :=
  ∃ b xs, e = .returned (.pointer (some ⟨b, 0, none⟩)) ∧ w.heap.size ≤ b ∧ PS w' w.heap.size b 0 false 0 xs ∧ PF w' b f mode mini wrap c ∧ Below w.heap.size w w'
theorem newP_end (w w1 : World) (xs : List Value) (f mode : Int) (mini wrap : Bool) (c : Nat) (o1 o2 o3 : Obj) (arr : Array Value) (h66 : arr[66]? = some (.int .u32 0)) (h106 : arr[106]? = some (.slice (some ⟨w.heap.size, 0, none⟩) 0 0)) (h32 : arr[32]? = some (.bool false))
    (h23 : arr[23]? = some (.int .u64 f)) (h34 : arr[34]? = some (.int .u8 mode)) (h41 : arr[41]? = some (.bool mini)) (h352 : arr[352]? = some (.bool wrap)) (h104 : arr[104]? = some (.pointer (some ⟨c, 0, none⟩)))
    (hown : w1.ownsRow w.heap.size 212 10 (.slice (some ⟨w.heap.size, 0, none⟩) 0 0) 0 xs) (hgr : w.grownBy w1 none) :
    NPP f mode mini wrap c w (.returned (.pointer (some ⟨w1.heap.size + 1 + 1 + 1, 0, none⟩))) ((((w1.alloc o1).alloc o2).alloc o3).alloc (.cells arr 195)) := by
  have hlt : w.heap.size < w1.heap.size := (World.ownsRow.lt hown w.heap.size rfl).2
  have hat : At ((((w1.alloc o1).alloc o2).alloc o3).alloc (.cells arr 195)) (w1.heap.size + 1 + 1 + 1) 195 arr := by
    have := heap_alloc_new (((w1.alloc o1).alloc o2).alloc o3) (.cells arr 195)
    unfold At
    simpa using this
  refine ⟨w1.heap.size + 1 + 1 + 1, xs, rfl, by omega, ⟨some ⟨w.heap.size, 0, none⟩, 0, by rw [hat.cell]; exact h66, by rw [hat.cell]; exact h106, hat.frozen _, by rw [hat.cell]; exact h32, ?_, fun k hk => by simp [Value.ownBlock] at hk; omega⟩, ⟨by rw [hat.cell]; exact h23, by rw [hat.cell]; exact h34, by rw [hat.cell]; exact h41, by rw [hat.cell]; exact h352, by rw [hat.cell]; exact h104⟩, ?_⟩
  · exact World.ownsRow.alloc (World.ownsRow.alloc (World.ownsRow.alloc (World.ownsRow.alloc hown _) _) _) _
  · refine ((((Below.grown (Below.refl _ _) hgr (Nat.le_refl _) (fun k hk => by cases hk)).alloc (by omega) _).alloc (by simp; omega) _).alloc (by simp; omega) _).alloc (by simp; omega) _
set_option maxRecDepth 100000 in
set_option maxHeartbeats 4000000 in
theorem newP (f mode : Int) (mini wrap : Bool) (c m : Nat) (w : World) :
    Calls Tryd.prog 27 #[.int .u32 0, .int .i64 0, .int .u64 f, .int .u8 mode, .bool mini, .bool wrap, .pointer (some ⟨c, 0, none⟩), .pointer (some ⟨m, 0, none⟩)] w (NPP f mode mini wrap c w) := by
  obtain ⟨i0, hi0, hz0, hz1, hz2⟩ := info_parts info212
  have HI := Lib.hid hi0
  have H0 := Lib.hid hz0
  have H1 := Lib.hid hz1
  have H2 := Lib.hid hz2
  clear hi0 hz0 hz1 hz2
  have hmm := @run_makeMap Tryd.prog
  go_enter Tryd.func27, Tryd.ntmps27
  go_wp2_with (with_reducible refine wpList_make_full _ (o := ⟨some 19, _, _, _, _, _⟩) rfl _ _ 139 rfl w.heap.size 212 i0 _ 10 Tryd.underlying139 HI.out H0.out H1.out .i64 .i64 _ _ 0 rfl rfl rfl rfl ?c1 ?c2 (Nat.le_refl _) ?_)
  case c1 => rw [H2.out]; omega
  case c2 => unfold maxLen; omega
  intro w1 hown hgr
  go_wp2_with (refine wpList_run0 (o := ⟨some 27, .build 195 #[(9, .tmp 19), (7, .tmp 20), (58, .tmp 21), (8, .tmp 24), (20, .tmp 25), (110, .tmp 26)], _, _, _, _⟩) rfl (.agg (pz (.slice (some ⟨w.heap.size, 0, none⟩) 0 0) (.pointer (some ⟨c, 0, none⟩)) (.pointer (some ⟨m, 0, none⟩)) (.pointer (some ⟨w1.heap.size + 1, 0, none⟩)) (.map (some (w1.heap.size + 2))) (.bool wrap))) ?hr ?_; case hr => kernel_rfl)
  exact bodyPost_ret (v := .pointer (some ⟨w1.heap.size + 1 + 1 + 1, 0, none⟩)) (by simp [results, Tryd.results27, go_sem]) rfl (newP_end w w1 _ f mode mini wrap c _ _ _ _ (by kernel_rfl) (by kernel_rfl) (by kernel_rfl) (by kernel_rfl) (by kernel_rfl) (by kernel_rfl) (by kernel_rfl) (by kernel_rfl) hown hgr)
def fOf (cl : Bool) : Int := if cl then 131072 else 0
def mOf (bundle : Bool) : Int := if bundle then 2 else 0
def ZSP (wrap pnil cl bundle minify : Bool) (w : World) (e : Ending) (w' : World) : Prop :=
  ∃ b c v xs B0, e = .returned (.pointer (some ⟨b, 0, none⟩)) ∧ (w.heap.size ≤ B0 ∧ B0 ≤ b ∧ c < B0) ∧ PS w' B0 b 0 false 0 xs ∧ PF w' b (fOf cl) (mOf bundle) minify wrap c ∧ B0 ≤ w'.heap.size ∧ w'.cell? ⟨c, 1, none⟩ = some (.pointer v) ∧ v.isNone = pnil ∧ Below w.heap.size w w'
theorem PS.low {w : World} {B B' b : Nat} {src : Int} {ts : Bool} {n : Nat} {xs : List Value} (h : PS w B b src ts n xs) (hb : B' ≤ B) : PS w B' b src ts n xs := by
  obtain ⟨a, c, h66, h106, f106, h32, hown, hne⟩ := h
  refine ⟨a, c, h66, h106, f106, h32, ⟨hown.1, ?_⟩, hne⟩
  rcases hown.2 with h | ⟨g, cap, cur, hv, h1, h2⟩
  · exact .inl h
  · exact .inr ⟨g, cap, cur, hv, Nat.le_trans hb h1, h2⟩
set_option maxRecDepth 100000 in
set_option maxHeartbeats 8000000 in
theorem scanParser (wrap pnil cl bundle minify : Bool) (w : World) : Calls Tryd.prog 15 #[.bool wrap, .bool pnil, .bool cl, .bool bundle, .bool minify] w (ZSP wrap pnil cl bundle minify w) := by
  have HN := Lib.hid (fun (c m : Nat) (W : World) => newP (fOf cl) (mOf bundle) minify wrap c m W)
  cases cl <;> cases bundle <;> cases pnil
  · have HN := Lib.hid (show ∀ (c m : Nat) (W : World), Calls Tryd.prog 27 #[.int .u32 0, .int .i64 0, .int .u64 0, .int .u8 0, .bool minify, .bool wrap, .pointer (some ⟨c, 0, none⟩), .pointer (some ⟨m, 0, none⟩)] W (NPP (fOf false) (mOf false) minify wrap c W) from fun c m W => newP (fOf false) (mOf false) minify wrap c m W)
    go_enter Tryd.func15, Tryd.ntmps15
    go_wp2_with fail
    refine (HN.out _ _ _).mono ?_
    rintro e w1 ⟨b, xs, rfl, hb, hp, hf, hbl⟩
    have hz := hbl.size
    have HE := Lib.hid (show ZSP wrap false false false minify w (.returned (.pointer (some ⟨b, 0, none⟩))) w1 from ⟨b, (w.heap.size + 1), (some ⟨w.heap.size, 0, none⟩), xs, _, rfl, ⟨by simp; try omega, hb, by simp; try omega⟩, hp, hf, hz, kept hbl (by simp [go_sem]), rfl, ((by repeat (first | with_reducible exact Below.refl _ _ | (with_reducible refine Below.drew ?_) | (with_reducible refine Below.alloc ?_ (by simp; try omega) _) | (with_reducible refine Below.setCell ?_ (by simp; try omega) _))) : Below w.heap.size w _).trans (hbl.mono (by simp; try omega))⟩)
    clear hp hf hbl
    go_wp2_with fail
    go_ret
    exact HE.out
  · have HN := Lib.hid (show ∀ (c m : Nat) (W : World), Calls Tryd.prog 27 #[.int .u32 0, .int .i64 0, .int .u64 0, .int .u8 0, .bool minify, .bool wrap, .pointer (some ⟨c, 0, none⟩), .pointer (some ⟨m, 0, none⟩)] W (NPP (fOf false) (mOf false) minify wrap c W) from fun c m W => newP (fOf false) (mOf false) minify wrap c m W)
    go_enter Tryd.func15, Tryd.ntmps15
    go_wp2_with fail
    refine (HN.out _ _ _).mono ?_
    rintro e w1 ⟨b, xs, rfl, hb, hp, hf, hbl⟩
    have hz := hbl.size
    have HE := Lib.hid (show ZSP wrap true false false minify w (.returned (.pointer (some ⟨b, 0, none⟩))) w1 from ⟨b, w.heap.size, none, xs, _, rfl, ⟨by simp; try omega, hb, by simp; try omega⟩, hp, hf, hz, kept hbl (by simp [go_sem]), rfl, ((by repeat (first | with_reducible exact Below.refl _ _ | (with_reducible refine Below.drew ?_) | (with_reducible refine Below.alloc ?_ (by simp; try omega) _) | (with_reducible refine Below.setCell ?_ (by simp; try omega) _))) : Below w.heap.size w _).trans (hbl.mono (by simp; try omega))⟩)
    clear hp hf hbl
    go_wp2_with fail
    go_ret
    exact HE.out
  · have HN := Lib.hid (show ∀ (c m : Nat) (W : World), Calls Tryd.prog 27 #[.int .u32 0, .int .i64 0, .int .u64 0, .int .u8 2, .bool minify, .bool wrap, .pointer (some ⟨c, 0, none⟩), .pointer (some ⟨m, 0, none⟩)] W (NPP (fOf false) (mOf true) minify wrap c W) from fun c m W => newP (fOf false) (mOf true) minify wrap c m W)
    go_enter Tryd.func15, Tryd.ntmps15
    go_wp2_with fail
    refine (HN.out _ _ _).mono ?_
    rintro e w1 ⟨b, xs, rfl, hb, hp, hf, hbl⟩
    have hz := hbl.size
    have HE := Lib.hid (show ZSP wrap false false true minify w (.returned (.pointer (some ⟨b, 0, none⟩))) w1 from ⟨b, (w.heap.size + 1), (some ⟨w.heap.size, 0, none⟩), xs, _, rfl, ⟨by simp; try omega, hb, by simp; try omega⟩, hp, hf, hz, kept hbl (by simp [go_sem]), rfl, ((by repeat (first | with_reducible exact Below.refl _ _ | (with_reducible refine Below.drew ?_) | (with_reducible refine Below.alloc ?_ (by simp; try omega) _) | (with_reducible refine Below.setCell ?_ (by simp; try omega) _))) : Below w.heap.size w _).trans (hbl.mono (by simp; try omega))⟩)
    clear hp hf hbl
    go_wp2_with fail
    go_ret
    exact HE.out
  · have HN := Lib.hid (show ∀ (c m : Nat) (W : World), Calls Tryd.prog 27 #[.int .u32 0, .int .i64 0, .int .u64 0, .int .u8 2, .bool minify, .bool wrap, .pointer (some ⟨c, 0, none⟩), .pointer (some ⟨m, 0, none⟩)] W (NPP (fOf false) (mOf true) minify wrap c W) from fun c m W => newP (fOf false) (mOf true) minify wrap c m W)
    go_enter Tryd.func15, Tryd.ntmps15
    go_wp2_with fail
    refine (HN.out _ _ _).mono ?_
    rintro e w1 ⟨b, xs, rfl, hb, hp, hf, hbl⟩
    have hz := hbl.size
    have HE := Lib.hid (show ZSP wrap true false true minify w (.returned (.pointer (some ⟨b, 0, none⟩))) w1 from ⟨b, w.heap.size, none, xs, _, rfl, ⟨by simp; try omega, hb, by simp; try omega⟩, hp, hf, hz, kept hbl (by simp [go_sem]), rfl, ((by repeat (first | with_reducible exact Below.refl _ _ | (with_reducible refine Below.drew ?_) | (with_reducible refine Below.alloc ?_ (by simp; try omega) _) | (with_reducible refine Below.setCell ?_ (by simp; try omega) _))) : Below w.heap.size w _).trans (hbl.mono (by simp; try omega))⟩)
    clear hp hf hbl
    go_wp2_with fail
    go_ret
    exact HE.out
  · have HN := Lib.hid (show ∀ (c m : Nat) (W : World), Calls Tryd.prog 27 #[.int .u32 0, .int .i64 0, .int .u64 131072, .int .u8 0, .bool minify, .bool wrap, .pointer (some ⟨c, 0, none⟩), .pointer (some ⟨m, 0, none⟩)] W (NPP (fOf true) (mOf false) minify wrap c W) from fun c m W => newP (fOf true) (mOf false) minify wrap c m W)
    go_enter Tryd.func15, Tryd.ntmps15
    go_wp2_with fail
    refine (HN.out _ _ _).mono ?_
    rintro e w1 ⟨b, xs, rfl, hb, hp, hf, hbl⟩
    have hz := hbl.size
    have HE := Lib.hid (show ZSP wrap false true false minify w (.returned (.pointer (some ⟨b, 0, none⟩))) w1 from ⟨b, (w.heap.size + 1), (some ⟨w.heap.size, 0, none⟩), xs, _, rfl, ⟨by simp; try omega, hb, by simp; try omega⟩, hp, hf, hz, kept hbl (by simp [go_sem]), rfl, ((by repeat (first | with_reducible exact Below.refl _ _ | (with_reducible refine Below.drew ?_) | (with_reducible refine Below.alloc ?_ (by simp; try omega) _) | (with_reducible refine Below.setCell ?_ (by simp; try omega) _))) : Below w.heap.size w _).trans (hbl.mono (by simp; try omega))⟩)
    clear hp hf hbl
    go_wp2_with fail
    go_ret
    exact HE.out
  · have HN := Lib.hid (show ∀ (c m : Nat) (W : World), Calls Tryd.prog 27 #[.int .u32 0, .int .i64 0, .int .u64 131072, .int .u8 0, .bool minify, .bool wrap, .pointer (some ⟨c, 0, none⟩), .pointer (some ⟨m, 0, none⟩)] W (NPP (fOf true) (mOf false) minify wrap c W) from fun c m W => newP (fOf true) (mOf false) minify wrap c m W)
    go_enter Tryd.func15, Tryd.ntmps15
    go_wp2_with fail
    refine (HN.out _ _ _).mono ?_
    rintro e w1 ⟨b, xs, rfl, hb, hp, hf, hbl⟩
    have hz := hbl.size
    have HE := Lib.hid (show ZSP wrap true true false minify w (.returned (.pointer (some ⟨b, 0, none⟩))) w1 from ⟨b, w.heap.size, none, xs, _, rfl, ⟨by simp; try omega, hb, by simp; try omega⟩, hp, hf, hz, kept hbl (by simp [go_sem]), rfl, ((by repeat (first | with_reducible exact Below.refl _ _ | (with_reducible refine Below.drew ?_) | (with_reducible refine Below.alloc ?_ (by simp; try omega) _) | (with_reducible refine Below.setCell ?_ (by simp; try omega) _))) : Below w.heap.size w _).trans (hbl.mono (by simp; try omega))⟩)
    clear hp hf hbl
    go_wp2_with fail
    go_ret
    exact HE.out
  · have HN := Lib.hid (show ∀ (c m : Nat) (W : World), Calls Tryd.prog 27 #[.int .u32 0, .int .i64 0, .int .u64 131072, .int .u8 2, .bool minify, .bool wrap, .pointer (some ⟨c, 0, none⟩), .pointer (some ⟨m, 0, none⟩)] W (NPP (fOf true) (mOf true) minify wrap c W) from fun c m W => newP (fOf true) (mOf true) minify wrap c m W)
    go_enter Tryd.func15, Tryd.ntmps15
    go_wp2_with fail
    refine (HN.out _ _ _).mono ?_
    rintro e w1 ⟨b, xs, rfl, hb, hp, hf, hbl⟩
    have hz := hbl.size
    have HE := Lib.hid (show ZSP wrap false true true minify w (.returned (.pointer (some ⟨b, 0, none⟩))) w1 from ⟨b, (w.heap.size + 1), (some ⟨w.heap.size, 0, none⟩), xs, _, rfl, ⟨by simp; try omega, hb, by simp; try omega⟩, hp, hf, hz, kept hbl (by simp [go_sem]), rfl, ((by repeat (first | with_reducible exact Below.refl _ _ | (with_reducible refine Below.drew ?_) | (with_reducible refine Below.alloc ?_ (by simp; try omega) _) | (with_reducible refine Below.setCell ?_ (by simp; try omega) _))) : Below w.heap.size w _).trans (hbl.mono (by simp; try omega))⟩)
    clear hp hf hbl
    go_wp2_with fail
    go_ret
    exact HE.out
  · have HN := Lib.hid (show ∀ (c m : Nat) (W : World), Calls Tryd.prog 27 #[.int .u32 0, .int .i64 0, .int .u64 131072, .int .u8 2, .bool minify, .bool wrap, .pointer (some ⟨c, 0, none⟩), .pointer (some ⟨m, 0, none⟩)] W (NPP (fOf true) (mOf true) minify wrap c W) from fun c m W => newP (fOf true) (mOf true) minify wrap c m W)
    go_enter Tryd.func15, Tryd.ntmps15
    go_wp2_with fail
    refine (HN.out _ _ _).mono ?_
    rintro e w1 ⟨b, xs, rfl, hb, hp, hf, hbl⟩
    have hz := hbl.size
    have HE := Lib.hid (show ZSP wrap true true true minify w (.returned (.pointer (some ⟨b, 0, none⟩))) w1 from ⟨b, w.heap.size, none, xs, _, rfl, ⟨by simp; try omega, hb, by simp; try omega⟩, hp, hf, hz, kept hbl (by simp [go_sem]), rfl, ((by repeat (first | with_reducible exact Below.refl _ _ | (with_reducible refine Below.drew ?_) | (with_reducible refine Below.alloc ?_ (by simp; try omega) _) | (with_reducible refine Below.setCell ?_ (by simp; try omega) _))) : Below w.heap.size w _).trans (hbl.mono (by simp; try omega))⟩)
    clear hp hf hbl
    go_wp2_with fail
    go_ret
    exact HE.out
end Go.Proofs.YtjnffbnipjkibaaDoor
