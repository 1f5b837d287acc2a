/- Proved here: the contracts of the functions that lay a method with a private or a string key, and of the one that lays an initialiser. Conditions as stated. -/
import Derived.Test.YtjnffbnipjkibaaDoorAMP
import Derived.Test.YtjnffbnipjkibaaDoorAPX
import Derived.WalkKit
import Derived.WalkSpells
import Derived.WalkLawsBesides
import Derived.Lib.Hide
import Derived.Lib.SliceRun
import Derived.Deep.RegionWith
import Derived.OwnWalk
import Derived.Laws.OwnMore
import Derived.BigRegion
namespace Go.Proofs.YtjnffbnipjkibaaDoor
open Go.RowKit
set_option linter.unusedSimpArgs false
set_option linter.unusedVariables false

/-- The class at block k holds one method at row R: its key's datum is kv, its initialiser's iv, its decorators n at block D, its flags fl. -/
def MP (w : World) (k R cap : Nat) (kv iv : Value) (D n : Nat) (fl : Int) : Prop := w.cell? ⟨k, 4, none⟩ = some (.slice (some ⟨R, 0, none⟩) 1 cap) ∧ w.cell? ⟨R, 0, none⟩ = some (.pointer none) ∧ w.cell? ⟨R, 1, none⟩ = some (kv) ∧ w.cell? ⟨R, 2, none⟩ = some (.int .i32 0) ∧ w.cell? ⟨R, 3, none⟩ = some (.nilIface) ∧ w.cell? ⟨R, 4, none⟩ = some (.int .i32 0) ∧ w.cell? ⟨R, 5, none⟩ = some (iv) ∧ w.cell? ⟨R, 6, none⟩ = some (.int .i32 0) ∧ w.cell? ⟨R, 7, none⟩ = some (.slice (some ⟨D, 0, none⟩) n n) ∧ w.cell? ⟨R, 8, none⟩ = some (.int .i32 0) ∧ w.cell? ⟨R, 9, none⟩ = some (.int .i32 0) ∧ w.cell? ⟨R, 10, none⟩ = some (.int .u8 1) ∧ w.cell? ⟨R, 11, none⟩ = some (.int .u8 fl) ∧ w.frozen? ⟨R, 5, none⟩ = false ∧ w.frozen? ⟨R, 6, none⟩ = false
def APP (priv : Bool) (k n : Nat) (fl : Int) (w : World) (e : Ending) (w' : World) : Prop :=
  ∃ R cap kb D, e = .returned (.int .i64 0) ∧ MP w' k R cap (if priv then .iface 229 (.pointer (some ⟨kb, 0, none⟩)) else .iface 235 (.pointer (some ⟨kb, 0, none⟩))) .nilIface D n fl ∧ (priv = true → w'.cell? ⟨kb, 1, none⟩ = some (.int .u32 0)) ∧ w.heap.size ≤ R ∧ w.heap.size ≤ kb ∧ R ≠ kb ∧ Below k w w' ∧ w.heap.size ≤ w'.heap.size ∧ (∀ i, i ≠ 4 → w'.cell? ⟨k, i, none⟩ = w.cell? ⟨k, i, none⟩) ∧ ∀ b, b < w.heap.size → b ≠ k → w'.heap[b]? = w.heap[b]?
theorem info234 : (Tryd.prog.info? 234).map (fun i => (i.zero, i.size, i.bytes)) = some (some (.agg #[.pointer none, .nilIface, .int .i32 0, .nilIface, .int .i32 0, .nilIface, .int .i32 0, .slice none 0 0, .int .i32 0, .int .i32 0, .int .u8 0, .int .u8 0]), 12, 120) := by kernel_rfl
theorem addPriv_core (w : World) (o1 o2 : Obj) (news : List Value) (hl : news.length = 12) (h1 : ∀ u ∈ news, u.oneCell' = true) :
    ∃ cap w', appRun Tryd.prog #[216, 216] 216 #[.slice none 0 0, .slice (some ⟨w.heap.size + 1 + 1, 0, none⟩) 1 1] (((w.alloc o1).alloc o2).alloc (.cells news.toArray 234)).drew = .ok (.slice (some ⟨w.heap.size + 1 + 1 + 1, 0, none⟩) 1 cap) w' ∧ w.heap.size + 1 + 1 + 1 < w'.heap.size ∧ (∀ k, k < w.heap.size + 1 + 1 + 1 → w'.heap[k]? = (((w.alloc o1).alloc o2).alloc (.cells news.toArray 234)).heap[k]?) ∧ (∀ i, i < 12 → w'.cell? ⟨w.heap.size + 1 + 1 + 1, i, none⟩ = news[i]?) ∧ (∀ i, w'.frozen? ⟨w.heap.size + 1 + 1 + 1, i, none⟩ = false) ∧ Below (w.heap.size + 1 + 1 + 1) (((w.alloc o1).alloc o2).alloc (.cells news.toArray 234)).drew w' :=
  appRun_nil _ 216 234 _ 12 120 Tryd.underlying216 info234 rfl (by omega) (by omega) ⟨w.heap.size + 1 + 1, 0, none⟩ 1 news (by simpa using hl) (by have := heap_alloc_new ((w.alloc o1).alloc o2) (.cells news.toArray 234); exact World.news_of_block (cs := news.toArray) (t := 234) (fr := (0, 0)) (show (((w.alloc o1).alloc o2).alloc (.cells news.toArray 234)).heap[w.heap.size + 1 + 1]? = _ from by simpa using this)) h1 (w.heap.size + 1 + 1 + 1) (by simp)
set_option maxRecDepth 100000 in
set_option maxHeartbeats 8000000 in
theorem addPriv (c k n : Nat) (fl : Int) (hfl : fl = 0 ∨ fl = 1 ∨ fl = 2 ∨ fl = 3) (us lo : Bool) (w : World) (hn : n ≤ 4096) (h : CX w c k us lo) (h4 : w.cell? ⟨k, 4, none⟩ = some (.slice none 0 0)) (f4 : w.frozen? ⟨k, 4, none⟩ = false) (hck : c ≠ k) :
    Calls Tryd.prog 8 #[.pointer (some ⟨c, 0, none⟩), .int .u64 1, .int .u64 fl, .int .u32 0, .int .i64 (n : Int)] w (APP true k n fl w) := by
  obtain ⟨h2, h9, h10⟩ := h
  have lk : k < w.heap.size := World.block_lt_of_cell? _ _ h4
  have lc : c < w.heap.size := World.block_lt_of_cell? _ _ h2
  have hmk := fun (w : World) => made (P := Tryd.prog) (t := 214) (e := 385) (z := .agg #[.nilIface, .int .i32 0, .int .i32 0, .bool false]) (sz := 4) (by_ := 32) Tryd.underlying214 (by kernel_rfl) w n (by omega) (by omega)
  have lk1 : k < w.heap.size + 1 := by omega
  have lk2 : k < w.heap.size + 1 + 1 := by omega
  have lk3 : k < w.heap.size + 1 + 1 + 1 := by omega
  have lc1 : c < w.heap.size + 1 := by omega
  have lc2 : c < w.heap.size + 1 + 1 := by omega
  have lc3 : c < w.heap.size + 1 + 1 + 1 := by omega
  have hkc : k ≠ c := Ne.symm hck
  have hkR : ¬ k = w.heap.size + 1 + 1 + 1 := by omega
  have hRk : ¬ w.heap.size + 1 + 1 + 1 = k := by omega
  have hkA : ¬ w.heap.size = k := by omega
  have hkB : ¬ w.heap.size + 1 = k := by omega
  clear h9 h10
  have fl0 : 0 ≤ fl := by omega
  have fl1 : fl ≤ 3 := by omega
  clear hfl
  obtain ⟨cap1, x1, hrun1, l1, kb1, hc1, hf1, hbl1⟩ := addPriv_core w (.cells #[.int .u32 0, .int .u32 0] 231) (.cells (madeCells #[.nilIface, .int .i32 0, .int .i32 0, .bool false] (n * 4)) 385) [.pointer none, .iface 229 (.pointer (some ⟨w.heap.size, 0, none⟩)), .int .i32 0, .nilIface, .int .i32 0, .nilIface, .int .i32 0, .slice (some ⟨w.heap.size + 1, 0, none⟩) n n, .int .i32 0, .int .i32 0, .int .u8 1, .int .u8 fl] rfl (by simp [Value.oneCell'])
  have AB1 := Lib.hid (show ∀ b, b < w.heap.size → x1.heap[b]? = w.heap[b]? from fun b hb => by rw [kb1 b (by omega), Below.heap_alloc _ _ b (by simp; omega), Below.heap_alloc _ _ b (by simp; omega), Below.heap_alloc _ _ b hb])
  have r12 : x1.cell? ⟨c, 2, none⟩ = some (.pointer (some ⟨k, 0, none⟩)) := (World.cell?_of_block (a := ⟨c, 2, none⟩) (AB1.out c lc)).trans h2
  have r14 : x1.cell? ⟨k, 4, none⟩ = some (.slice none 0 0) := (World.cell?_of_block (a := ⟨k, 4, none⟩) (AB1.out k lk)).trans h4
  have s14 : x1.frozen? ⟨k, 4, none⟩ = false := (World.frozen?_of_block (a := ⟨k, 4, none⟩) (AB1.out k lk)).trans f4
  have KC1 := Lib.hid (show ∀ o, x1.cell? ⟨w.heap.size, o, none⟩ = (#[.int .u32 0, .int .u32 0] : Array Value)[o]? from fun o => (World.cell?_of_block (a := ⟨w.heap.size, o, none⟩) (kb1 (w.heap.size) (by omega))).trans (At.cell (t := 231) (cs := #[.int .u32 0, .int .u32 0]) (((At.new w 231 #[.int .u32 0, .int .u32 0]).alloc (.cells (madeCells #[.nilIface, .int .i32 0, .int .i32 0, .bool false] (n * 4)) 385)).alloc (.cells #[.pointer none, .iface 229 (.pointer (some ⟨w.heap.size, 0, none⟩)), .int .i32 0, .nilIface, .int .i32 0, .nilIface, .int .i32 0, .slice (some ⟨w.heap.size + 1, 0, none⟩) n n, .int .i32 0, .int .i32 0, .int .u8 1, .int .u8 fl] 234)) o))
  have HC1 := Lib.hid hc1
  have HF1 := Lib.hid hf1
  have HB1 := Lib.hid (show Below k w x1 from (((((Below.refl k w).alloc (by omega) _).alloc (by simp; omega) _).alloc (by simp; omega) _).drew).trans (hbl1.mono (by omega)))
  clear kb1 hc1 hf1 hbl1
  obtain ⟨cap2, x2, hrun2, l2, kb2, hc2, hf2, hbl2⟩ := addPriv_core w (.cells (madeCells #[.nilIface, .int .i32 0, .int .i32 0, .bool false] (n * 4)) 385) (.cells #[.int .u32 0, .int .u32 0] 231) [.pointer none, .iface 229 (.pointer (some ⟨w.heap.size + 1, 0, none⟩)), .int .i32 0, .nilIface, .int .i32 0, .nilIface, .int .i32 0, .slice (some ⟨w.heap.size, 0, none⟩) n n, .int .i32 0, .int .i32 0, .int .u8 1, .int .u8 fl] rfl (by simp [Value.oneCell'])
  have AB2 := Lib.hid (show ∀ b, b < w.heap.size → x2.heap[b]? = w.heap[b]? from fun b hb => by rw [kb2 b (by omega), Below.heap_alloc _ _ b (by simp; omega), Below.heap_alloc _ _ b (by simp; omega), Below.heap_alloc _ _ b hb])
  have r22 : x2.cell? ⟨c, 2, none⟩ = some (.pointer (some ⟨k, 0, none⟩)) := (World.cell?_of_block (a := ⟨c, 2, none⟩) (AB2.out c lc)).trans h2
  have r24 : x2.cell? ⟨k, 4, none⟩ = some (.slice none 0 0) := (World.cell?_of_block (a := ⟨k, 4, none⟩) (AB2.out k lk)).trans h4
  have s24 : x2.frozen? ⟨k, 4, none⟩ = false := (World.frozen?_of_block (a := ⟨k, 4, none⟩) (AB2.out k lk)).trans f4
  have KC2 := Lib.hid (show ∀ o, x2.cell? ⟨w.heap.size + 1, o, none⟩ = (#[.int .u32 0, .int .u32 0] : Array Value)[o]? from fun o => (World.cell?_of_block (a := ⟨w.heap.size + 1, o, none⟩) (kb2 (w.heap.size + 1) (by omega))).trans (At.cell (t := 231) (cs := #[.int .u32 0, .int .u32 0]) (by have := (At.new (w.alloc (.cells (madeCells #[.nilIface, .int .i32 0, .int .i32 0, .bool false] (n * 4)) 385)) 231 #[.int .u32 0, .int .u32 0]).alloc (.cells #[.pointer none, .iface 229 (.pointer (some ⟨w.heap.size + 1, 0, none⟩)), .int .i32 0, .nilIface, .int .i32 0, .nilIface, .int .i32 0, .slice (some ⟨w.heap.size, 0, none⟩) n n, .int .i32 0, .int .i32 0, .int .u8 1, .int .u8 fl] 234); simpa using this) o))
  have HC2 := Lib.hid hc2
  have HF2 := Lib.hid hf2
  have HB2 := Lib.hid (show Below k w x2 from (((((Below.refl k w).alloc (by omega) _).alloc (by simp; omega) _).alloc (by simp; omega) _).drew).trans (hbl2.mono (by omega)))
  clear kb2 hc2 hf2 hbl2
  go_enter Tryd.func8, Tryd.ntmps8
  go_wp2_with fail
  go_region
  all_goals
    go_wp2_with fail
    go_ret
    first
    | exact ⟨w.heap.size + 1 + 1 + 1, cap1, w.heap.size, w.heap.size + 1, rfl, ⟨by simp [go_sem, *], (by rw [World.cell?_setCell_other _ _ _ _ (by intro e; injection e with e1 _ _; omega)]; exact (HC1.out 0 (by omega)).trans rfl), (by rw [World.cell?_setCell_other _ _ _ _ (by intro e; injection e with e1 _ _; omega)]; exact (HC1.out 1 (by omega)).trans rfl), (by rw [World.cell?_setCell_other _ _ _ _ (by intro e; injection e with e1 _ _; omega)]; exact (HC1.out 2 (by omega)).trans rfl), (by rw [World.cell?_setCell_other _ _ _ _ (by intro e; injection e with e1 _ _; omega)]; exact (HC1.out 3 (by omega)).trans rfl), (by rw [World.cell?_setCell_other _ _ _ _ (by intro e; injection e with e1 _ _; omega)]; exact (HC1.out 4 (by omega)).trans rfl), (by rw [World.cell?_setCell_other _ _ _ _ (by intro e; injection e with e1 _ _; omega)]; exact (HC1.out 5 (by omega)).trans rfl), (by rw [World.cell?_setCell_other _ _ _ _ (by intro e; injection e with e1 _ _; omega)]; exact (HC1.out 6 (by omega)).trans rfl), (by rw [World.cell?_setCell_other _ _ _ _ (by intro e; injection e with e1 _ _; omega)]; exact (HC1.out 7 (by omega)).trans rfl), (by rw [World.cell?_setCell_other _ _ _ _ (by intro e; injection e with e1 _ _; omega)]; exact (HC1.out 8 (by omega)).trans rfl), (by rw [World.cell?_setCell_other _ _ _ _ (by intro e; injection e with e1 _ _; omega)]; exact (HC1.out 9 (by omega)).trans rfl), (by rw [World.cell?_setCell_other _ _ _ _ (by intro e; injection e with e1 _ _; omega)]; exact (HC1.out 10 (by omega)).trans rfl), (by rw [World.cell?_setCell_other _ _ _ _ (by intro e; injection e with e1 _ _; omega)]; exact (HC1.out 11 (by omega)).trans rfl), (by simp [go_sem]; exact HF1.out 5), (by simp [go_sem]; exact HF1.out 6)⟩, (fun _ => by rw [World.cell?_setCell_other _ _ _ _ (by intro e; injection e with e1 _ _; omega), KC1.out]; rfl), by omega, by omega, by omega, HB1.out.setCell (by simp) _, by simp [World.setCell]; omega, (fun i hi => by rw [World.cell?_setCell_other _ _ _ _ (by intro e; injection e with _ e2 _; omega)]; exact World.cell?_of_block (a := ⟨k, i, none⟩) (AB1.out k lk)), fun b hb hbk => by rw [Below.heap_setCell _ _ _ b (by simp; omega)]; exact AB1.out b hb⟩
    | exact ⟨w.heap.size + 1 + 1 + 1, cap2, w.heap.size + 1, w.heap.size, rfl, ⟨by simp [go_sem, *], (by rw [World.cell?_setCell_other _ _ _ _ (by intro e; injection e with e1 _ _; omega)]; exact (HC2.out 0 (by omega)).trans rfl), (by rw [World.cell?_setCell_other _ _ _ _ (by intro e; injection e with e1 _ _; omega)]; exact (HC2.out 1 (by omega)).trans rfl), (by rw [World.cell?_setCell_other _ _ _ _ (by intro e; injection e with e1 _ _; omega)]; exact (HC2.out 2 (by omega)).trans rfl), (by rw [World.cell?_setCell_other _ _ _ _ (by intro e; injection e with e1 _ _; omega)]; exact (HC2.out 3 (by omega)).trans rfl), (by rw [World.cell?_setCell_other _ _ _ _ (by intro e; injection e with e1 _ _; omega)]; exact (HC2.out 4 (by omega)).trans rfl), (by rw [World.cell?_setCell_other _ _ _ _ (by intro e; injection e with e1 _ _; omega)]; exact (HC2.out 5 (by omega)).trans rfl), (by rw [World.cell?_setCell_other _ _ _ _ (by intro e; injection e with e1 _ _; omega)]; exact (HC2.out 6 (by omega)).trans rfl), (by rw [World.cell?_setCell_other _ _ _ _ (by intro e; injection e with e1 _ _; omega)]; exact (HC2.out 7 (by omega)).trans rfl), (by rw [World.cell?_setCell_other _ _ _ _ (by intro e; injection e with e1 _ _; omega)]; exact (HC2.out 8 (by omega)).trans rfl), (by rw [World.cell?_setCell_other _ _ _ _ (by intro e; injection e with e1 _ _; omega)]; exact (HC2.out 9 (by omega)).trans rfl), (by rw [World.cell?_setCell_other _ _ _ _ (by intro e; injection e with e1 _ _; omega)]; exact (HC2.out 10 (by omega)).trans rfl), (by rw [World.cell?_setCell_other _ _ _ _ (by intro e; injection e with e1 _ _; omega)]; exact (HC2.out 11 (by omega)).trans rfl), (by simp [go_sem]; exact HF2.out 5), (by simp [go_sem]; exact HF2.out 6)⟩, (fun _ => by rw [World.cell?_setCell_other _ _ _ _ (by intro e; injection e with e1 _ _; omega), KC2.out]; rfl), by omega, by omega, by omega, HB2.out.setCell (by simp) _, by simp [World.setCell]; omega, (fun i hi => by rw [World.cell?_setCell_other _ _ _ _ (by intro e; injection e with _ e2 _; omega)]; exact World.cell?_of_block (a := ⟨k, i, none⟩) (AB2.out k lk)), fun b hb hbk => by rw [Below.heap_setCell _ _ _ b (by simp; omega)]; exact AB2.out b hb⟩

def SIP (k R cap : Nat) (kv : Value) (D n : Nat) (fl : Int) (w : World) (e : Ending) (w' : World) : Prop := e = .returned (.tuple #[]) ∧ (∃ q, MP w' k R cap kv (.iface 238 (.pointer (some ⟨q, 0, none⟩))) D n fl) ∧ (∀ b, b < w.heap.size → b ≠ R → w'.heap[b]? = w.heap[b]?) ∧ Below R w w' ∧ w.heap.size ≤ w'.heap.size
set_option maxRecDepth 100000 in
set_option maxHeartbeats 8000000 in
theorem setInit (c k R cap : Nat) (kv : Value) (D n : Nat) (fl : Int) (us lo : Bool) (w : World) (h : CX w c k us lo) (hm : MP w k R cap kv .nilIface D n fl) (hkv : ∃ t q, kv = .iface t (.pointer (some ⟨q, 0, none⟩))) (hRk : R ≠ k) :
    Calls Tryd.prog 10 #[.pointer (some ⟨c, 0, none⟩), .int .i64 0] w (SIP k R cap kv D n fl w) := by
  obtain ⟨t, q, rfl⟩ := hkv
  obtain ⟨h4, m0, m1, m2, m3, m4, m5, m6, m7, m8, m9, m10, m11, f5, f6⟩ := hm
  obtain ⟨h2, _, _⟩ := h
  have lk : k < w.heap.size := World.block_lt_of_cell? _ _ h4
  have lc : c < w.heap.size := World.block_lt_of_cell? _ _ h2
  have lR : R < w.heap.size := World.block_lt_of_cell? _ _ m0
  have hkR : ¬ k = R := fun e => hRk e.symm
  go_enter Tryd.func10, Tryd.ntmps10
  go_wp2_with fail
  go_end0
  exact ⟨rfl, ⟨w.heap.size, by simp [go_sem, *], by simp [go_sem, *], by simp [go_sem, *], by simp [go_sem, *], by simp [go_sem, *], by simp [go_sem, *], by simp [go_sem, *], by simp [go_sem, *], by simp [go_sem, *], by simp [go_sem, *], by simp [go_sem, *], by simp [go_sem, *], by simp [go_sem, *], by simp [go_sem, *], by simp [go_sem, *]⟩, (fun b hb hbR => by rw [Below.heap_alloc _ _ b (by simp [World.setCell]; omega), Below.heap_setCell _ _ _ b (by simp; omega), Below.heap_setCell _ _ _ b (by simp; omega)]), (((Below.refl R w).setCell (by simp) _).setCell (by simp) _).alloc (by simp [World.setCell]; omega) _, by simp [World.setCell]⟩
end Go.Proofs.YtjnffbnipjkibaaDoor
