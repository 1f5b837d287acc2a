/- Proved here: the new parser and its log. -/
import Derived.Test.YtkkkamniccgblaaFmtMFJ
import Derived.WalkKit
import Derived.WalkSpells
import Derived.WalkLawsBesides
import Derived.Lib.Hide
import Derived.Lib.SliceRun
import Derived.Deep.RegionWith
import Derived.BigRegion
import Derived.BigQuiet
import Derived.OwnWalk
import Derived.Laws.OwnMore
import Derived.Deep.Cut
import Derived.Carry
import Derived.IntWalk
import Derived.StillTailTactics
import Derived.Deep.RegionHeld3
namespace Go.Proofs.YtkkkamniccgblaaFmt
open Go.RowKit
set_option linter.unusedSimpArgs false
set_option linter.unusedVariables false

namespace MF
@[go_sem] theorem run_store_fn {P : Program} {w : World} {a : Addr} {m : Mode} (fn : Fn) (first captured : Array Value) : (store a (.func fn first captured) m).run P w = stored P w a (.func fn first captured) m := run_store P w a _ m rfl
theorem kSetO {w : World} {b o i : Nat} {u v : Value} (h : w.cell? ⟨b, o, none⟩ = some u) (ho : o ≠ i) : (w.setCell ⟨b, i, none⟩ v).cell? ⟨b, o, none⟩ = some u := by
  rw [World.cell?_setCell_other _ _ _ _ (by intro e; injection e with _ e1 _; exact ho e1.symm)]; exact h
theorem kSetS {w : World} {b o : Nat} {u : Value} (v : Value) (h : w.cell? ⟨b, o, none⟩ = some u) : (w.setCell ⟨b, o, none⟩ v).cell? ⟨b, o, none⟩ = some v := World.cell?_setCell_same w _ v h
noncomputable def pz : Array Value := zeroOf Tryf.prog 164
theorem pz_size : pz.size = 353 := by kernel_rfl
theorem wpList_run0 {P : Program} {ops : Array Oper} {rest : List Oper} {o : Oper} {a : Act} {w : World} {Q : Exit → Act → World → Prop} (hgd : o.guard = none) (v : Value)
    (hr : (execOp a.eval o).run P w = .ok (.value v) w) (h : wpList P ops Q rest (a.put o.dst v) w) : wpList P ops Q (o :: rest) a w := wpList_run hgd v w hr h
/-- A new log. -/
def NLP (w : World) (n : Nat) (e : Ending) (w' : World) : Prop := e = .returned (.agg (lgv n (n + 1 + 1 + 1) (n + 1 + 1 + 1 + 1) (n + 1 + 1))) ∧ LG w' n (n + 1 + 1 + 1) (n + 1 + 1 + 1 + 1) (n + 1 + 1) 0 ∧ Below n w w' ∧ w'.heap.size = n + 1 + 1 + 1 + 1 + 1
set_option maxRecDepth 100000 in
theorem newLog (w : World) (n : Nat) (hn : n = w.heap.size) : Calls Tryf.prog 12 #[.int .u8 0, .map none] w (NLP w n) := by
  subst hn
  have hmf : ∀ (fn : Fn) (first cap : Array Value) (w : World), (Instr.makeFunc fn first cap).run Tryf.prog w = .ok (.func fn first cap) w := fun _ _ _ _ => rfl
  go_enter Tryf.func12, Tryf.ntmps12
  go_wp2_with fail
  refine bodyPost_ret (v := .agg (lgv w.heap.size (w.heap.size + 1 + 1 + 1) (w.heap.size + 1 + 1 + 1 + 1) (w.heap.size + 1 + 1))) (by simp [results, Tryf.results12, go_sem]) rfl ⟨rfl, ?_, ?_, ?_⟩
  · obtain ⟨V1, hV1⟩ : ∃ V, V = w.alloc (.cells #[.int .u8 0] 168) := ⟨_, rfl⟩
    obtain ⟨V2, hV2⟩ : ∃ V, V = V1.alloc (.cells (lgv w.heap.size (w.heap.size + 1 + 1 + 1) (w.heap.size + 1 + 1 + 1 + 1) (w.heap.size + 1 + 1)) 82) := ⟨_, rfl⟩
    obtain ⟨V3, hV3⟩ : ∃ V, V = V2.alloc (.cells #[.slice none 0 0] 189) := ⟨_, rfl⟩
    obtain ⟨V4, hV4⟩ : ∃ V, V = V3.alloc (.cells #[il 0, .int .u32 0] 195) := ⟨_, rfl⟩
    obtain ⟨V5, hV5⟩ : ∃ V, V = V4.alloc (.cells #[.bool false] 4) := ⟨_, rfl⟩
    have z1 : V1.heap.size = w.heap.size + 1 := by rw [hV1]; simp
    have z2 : V2.heap.size = w.heap.size + 1 + 1 := by rw [hV2]; simp [z1]
    have z3 : V3.heap.size = w.heap.size + 1 + 1 + 1 := by rw [hV3]; simp [z2]
    have z4 : V4.heap.size = w.heap.size + 1 + 1 + 1 + 1 := by rw [hV4]; simp [z3]
    have a1 : At V5 w.heap.size 168 #[.int .u8 0] := by rw [hV5, hV4, hV3, hV2, hV1]; exact ((((At.new w _ _).alloc _).alloc _).alloc _).alloc _
    have a3 : At V5 (w.heap.size + 1 + 1) 189 #[.slice none 0 0] := by have := At.new V2 189 #[.slice none 0 0]; rw [z2] at this; rw [hV5, hV4, hV3]; exact (this.alloc _).alloc _
    have a4 : At V5 (w.heap.size + 1 + 1 + 1) 195 #[il 0, .int .u32 0] := by have := At.new V3 195 #[il 0, .int .u32 0]; rw [z3] at this; rw [hV5, hV4]; exact this.alloc _
    have a5 : At V5 (w.heap.size + 1 + 1 + 1 + 1) 4 #[.bool false] := by have := At.new V4 4 #[.bool false]; rw [z4] at this; rw [hV5]; exact this
    have := (⟨by rw [a1.cell]; rfl, by rw [a4.cell]; rfl, a4.frozen _, ⟨false, by rw [a5.cell]; rfl⟩, a5.frozen _, by rw [a3.cell]; rfl, a3.frozen _⟩ : LG V5 w.heap.size (w.heap.size + 1 + 1 + 1) (w.heap.size + 1 + 1 + 1 + 1) (w.heap.size + 1 + 1) 0)
    rw [hV5, hV4, hV3, hV2, hV1] at this
    exact this
  · exact (((((Below.refl _ w).alloc (Nat.le_refl _) _).alloc (by simp) _).alloc (by simp; omega) _).alloc (by simp; omega) _).alloc (by simp; omega) _
  · simp

/-- The new parser. -/
structure PN (w : World) (p : Nat) (fmt : Int) : Prop where
  c18 : w.cell? ⟨p, 18, none⟩ = some (.string ⟨#[]⟩)
  c23 : w.cell? ⟨p, 23, none⟩ = some (.int .u64 0)
  c25 : w.cell? ⟨p, 25, none⟩ = some (.int .u64 0)
  c36 : w.cell? ⟨p, 36, none⟩ = some (.int .u8 fmt)
  c51 : w.cell? ⟨p, 51, none⟩ = some (.func (.func 21) #[] #[.pointer (some ⟨(p + 1), 0, none⟩), .pointer (some ⟨(p + 1 + 1 + 1 + 1), 0, none⟩), .pointer (some ⟨(p + 1 + 1 + 1 + 1 + 1), 0, none⟩), .pointer (some ⟨(p + 1 + 1 + 1), 0, none⟩)])
  c52 : w.cell? ⟨p, 52, none⟩ = some (.func (.func 24) #[] #[.pointer (some ⟨(p + 1 + 1 + 1 + 1), 0, none⟩), .pointer (some ⟨(p + 1 + 1 + 1 + 1 + 1), 0, none⟩)])
  c53 : w.cell? ⟨p, 53, none⟩ = some (.func (.func 25) #[] #[.pointer (some ⟨(p + 1 + 1 + 1 + 1), 0, none⟩), .pointer (some ⟨(p + 1 + 1 + 1), 0, none⟩)])
  c54 : w.cell? ⟨p, 54, none⟩ = some (.func (.func 26) #[] #[.pointer (some ⟨(p + 1 + 1 + 1 + 1), 0, none⟩), .pointer (some ⟨(p + 1 + 1 + 1), 0, none⟩)])
  c55 : w.cell? ⟨p, 55, none⟩ = some (.int .i8 3)
  c56 : w.cell? ⟨p, 56, none⟩ = some (.map none)
  c57 : w.cell? ⟨p, 57, none⟩ = some (.string ⟨#[]⟩)
  c58 : w.cell? ⟨p, 58, none⟩ = some (.string ⟨#[]⟩)
  c60 : w.cell? ⟨p, 60, none⟩ = some (.string ⟨#[]⟩)
  c67 : w.cell? ⟨p, 67, none⟩ = some (.string ⟨#[]⟩)
  c68 : w.cell? ⟨p, 68, none⟩ = some (.string ⟨#[]⟩)
  c69 : w.cell? ⟨p, 69, none⟩ = some (.string ⟨#[]⟩)
  c70 : w.cell? ⟨p, 70, none⟩ = some (il 0)
  c71 : w.cell? ⟨p, 71, none⟩ = some (il 0)
  c72 : w.cell? ⟨p, 72, none⟩ = some (il 0)
  c73 : w.cell? ⟨p, 73, none⟩ = some (il 0)
  c74 : w.cell? ⟨p, 74, none⟩ = some (.bool true)
  c75 : w.cell? ⟨p, 75, none⟩ = some (.bool false)
  c76 : w.cell? ⟨p, 76, none⟩ = some (.bool true)
  c329 : w.cell? ⟨p, 329, none⟩ = some (.int .i32 0)
  c341 : w.cell? ⟨p, 341, none⟩ = some (.bool false)
  fr : ∀ i, w.frozen? ⟨p, i, none⟩ = false
  lg : LG w (p + 1) (p + 1 + 1 + 1 + 1) (p + 1 + 1 + 1 + 1 + 1) (p + 1 + 1 + 1) 0
def NPP (w : World) (fmt : Int) (e : Ending) (w' : World) : Prop := e = .returned (.pointer (some ⟨w.heap.size, 0, none⟩)) ∧ PN w' w.heap.size fmt ∧ Below w.heap.size w w'

theorem gS {X : Array Value} (h : X.size = 353) (i : Nat) (hi : i < 353) (v : Value) : (X.setIfInBounds i v)[i]? = some v := by simp [Array.getElem?_setIfInBounds, h, hi]
theorem gO {X : Array Value} {i o : Nat} {v u : Value} (h : X[o]? = some u) (hi : i ≠ o) : (X.setIfInBounds i v)[o]? = some u := by rw [Array.getElem?_setIfInBounds_ne hi]; exact h
theorem lgFar {w : World} {lv mu he ms : Nat} {m : Int} {p : Nat} (h : LG w lv mu he ms m) (i : Nat) (v : Value) (hp : p ≠ lv ∧ p ≠ mu ∧ p ≠ he ∧ p ≠ ms) : LG (w.setCell ⟨p, i, none⟩ v) lv mu he ms m :=
  h.kt (p := p) (KX.set (KX.refl _ w) (by simp) i v) hp

theorem sizeOf36 {X : Array Value} {v : Value} (h : X[36]? = some v) : 36 < X.size := (Array.getElem?_eq_some_iff.1 h).1

theorem pnEnd {W : World} {w : World} {fmt : Int} {X : Array Value} (hne : w.heap.size ≠ w.heap.size + 1 ∧ w.heap.size ≠ w.heap.size + 1 + 1 + 1 + 1 ∧ w.heap.size ≠ w.heap.size + 1 + 1 + 1 + 1 + 1 ∧ w.heap.size ≠ w.heap.size + 1 + 1 + 1) (A : At W w.heap.size 164 X) (L : LG W (w.heap.size + 1) (w.heap.size + 1 + 1 + 1 + 1) (w.heap.size + 1 + 1 + 1 + 1 + 1) (w.heap.size + 1 + 1 + 1) 0) (y18 : X[18]? = some (.string ⟨#[]⟩)) (y23 : X[23]? = some (.int .u64 0)) (y25 : X[25]? = some (.int .u64 0)) (y51 : X[51]? = some (.func (.func 21) #[] #[.pointer (some ⟨(w.heap.size + 1), 0, none⟩), .pointer (some ⟨(w.heap.size + 1 + 1 + 1 + 1), 0, none⟩), .pointer (some ⟨(w.heap.size + 1 + 1 + 1 + 1 + 1), 0, none⟩), .pointer (some ⟨(w.heap.size + 1 + 1 + 1), 0, none⟩)])) (y52 : X[52]? = some (.func (.func 24) #[] #[.pointer (some ⟨(w.heap.size + 1 + 1 + 1 + 1), 0, none⟩), .pointer (some ⟨(w.heap.size + 1 + 1 + 1 + 1 + 1), 0, none⟩)])) (y53 : X[53]? = some (.func (.func 25) #[] #[.pointer (some ⟨(w.heap.size + 1 + 1 + 1 + 1), 0, none⟩), .pointer (some ⟨(w.heap.size + 1 + 1 + 1), 0, none⟩)])) (y54 : X[54]? = some (.func (.func 26) #[] #[.pointer (some ⟨(w.heap.size + 1 + 1 + 1 + 1), 0, none⟩), .pointer (some ⟨(w.heap.size + 1 + 1 + 1), 0, none⟩)])) (y55 : X[55]? = some (.int .i8 3)) (y56 : X[56]? = some (.map none)) (y57 : X[57]? = some (.string ⟨#[]⟩)) (y58 : X[58]? = some (.string ⟨#[]⟩)) (y60 : X[60]? = some (.string ⟨#[]⟩)) (y67 : X[67]? = some (.string ⟨#[]⟩)) (y68 : X[68]? = some (.string ⟨#[]⟩)) (y69 : X[69]? = some (.string ⟨#[]⟩)) (y70 : X[70]? = some (il 0)) (y71 : X[71]? = some (il 0)) (y72 : X[72]? = some (il 0)) (y73 : X[73]? = some (il 0)) (y74 : X[74]? = some (.bool true)) (y75 : X[75]? = some (.bool false)) (y76 : X[76]? = some (.bool true)) (y329 : X[329]? = some (.int .i32 0)) (y341 : X[341]? = some (.bool false)) (y36 : X[36]? = some (.int .u8 0)) (y13 : X[13]? = some (.pointer none)) (y104 : X[104]? = some (.pointer none)) (a b : Value) (o1 o2 : Obj) : PN (((((W.setCell ⟨w.heap.size, 104, none⟩ a).setCell ⟨w.heap.size, 13, none⟩ b).setCell ⟨w.heap.size, 36, none⟩ (.int .u8 fmt)).alloc o1).alloc o2) w.heap.size fmt := by
  have A1 := ((((A.set 104 a).set 13 b).set 36 (.int .u8 fmt)).alloc o1).alloc o2
  have L1 : LG (((W.setCell ⟨w.heap.size, 104, none⟩ a).setCell ⟨w.heap.size, 13, none⟩ b).setCell ⟨w.heap.size, 36, none⟩ (.int .u8 fmt)) (w.heap.size + 1) (w.heap.size + 1 + 1 + 1 + 1) (w.heap.size + 1 + 1 + 1 + 1 + 1) (w.heap.size + 1 + 1 + 1) 0 := lgFar (lgFar (lgFar L _ _ hne) _ _ hne) _ _ hne
  have l1 := World.block_lt_of_cell? _ _ L1.l
  have l2 := World.block_lt_of_cell? _ _ L1.m
  have l3 := World.block_lt_of_cell? _ _ L1.h.choose_spec
  have l4 := World.block_lt_of_cell? _ _ L1.s
  exact ⟨(by rw [A1.cell]; first | exact gO (gO (gO y18 (by decide)) (by decide)) (by decide) | simp [Array.getElem?_setIfInBounds, sizeOf36 y36]), (by rw [A1.cell]; first | exact gO (gO (gO y23 (by decide)) (by decide)) (by decide) | simp [Array.getElem?_setIfInBounds, sizeOf36 y36]), (by rw [A1.cell]; first | exact gO (gO (gO y25 (by decide)) (by decide)) (by decide) | simp [Array.getElem?_setIfInBounds, sizeOf36 y36]), (by rw [A1.cell]; first | exact gO (gO (gO y36 (by decide)) (by decide)) (by decide) | simp [Array.getElem?_setIfInBounds, sizeOf36 y36]), (by rw [A1.cell]; first | exact gO (gO (gO y51 (by decide)) (by decide)) (by decide) | simp [Array.getElem?_setIfInBounds, sizeOf36 y36]), (by rw [A1.cell]; first | exact gO (gO (gO y52 (by decide)) (by decide)) (by decide) | simp [Array.getElem?_setIfInBounds, sizeOf36 y36]), (by rw [A1.cell]; first | exact gO (gO (gO y53 (by decide)) (by decide)) (by decide) | simp [Array.getElem?_setIfInBounds, sizeOf36 y36]), (by rw [A1.cell]; first | exact gO (gO (gO y54 (by decide)) (by decide)) (by decide) | simp [Array.getElem?_setIfInBounds, sizeOf36 y36]), (by rw [A1.cell]; first | exact gO (gO (gO y55 (by decide)) (by decide)) (by decide) | simp [Array.getElem?_setIfInBounds, sizeOf36 y36]), (by rw [A1.cell]; first | exact gO (gO (gO y56 (by decide)) (by decide)) (by decide) | simp [Array.getElem?_setIfInBounds, sizeOf36 y36]), (by rw [A1.cell]; first | exact gO (gO (gO y57 (by decide)) (by decide)) (by decide) | simp [Array.getElem?_setIfInBounds, sizeOf36 y36]), (by rw [A1.cell]; first | exact gO (gO (gO y58 (by decide)) (by decide)) (by decide) | simp [Array.getElem?_setIfInBounds, sizeOf36 y36]), (by rw [A1.cell]; first | exact gO (gO (gO y60 (by decide)) (by decide)) (by decide) | simp [Array.getElem?_setIfInBounds, sizeOf36 y36]), (by rw [A1.cell]; first | exact gO (gO (gO y67 (by decide)) (by decide)) (by decide) | simp [Array.getElem?_setIfInBounds, sizeOf36 y36]), (by rw [A1.cell]; first | exact gO (gO (gO y68 (by decide)) (by decide)) (by decide) | simp [Array.getElem?_setIfInBounds, sizeOf36 y36]), (by rw [A1.cell]; first | exact gO (gO (gO y69 (by decide)) (by decide)) (by decide) | simp [Array.getElem?_setIfInBounds, sizeOf36 y36]), (by rw [A1.cell]; first | exact gO (gO (gO y70 (by decide)) (by decide)) (by decide) | simp [Array.getElem?_setIfInBounds, sizeOf36 y36]), (by rw [A1.cell]; first | exact gO (gO (gO y71 (by decide)) (by decide)) (by decide) | simp [Array.getElem?_setIfInBounds, sizeOf36 y36]), (by rw [A1.cell]; first | exact gO (gO (gO y72 (by decide)) (by decide)) (by decide) | simp [Array.getElem?_setIfInBounds, sizeOf36 y36]), (by rw [A1.cell]; first | exact gO (gO (gO y73 (by decide)) (by decide)) (by decide) | simp [Array.getElem?_setIfInBounds, sizeOf36 y36]), (by rw [A1.cell]; first | exact gO (gO (gO y74 (by decide)) (by decide)) (by decide) | simp [Array.getElem?_setIfInBounds, sizeOf36 y36]), (by rw [A1.cell]; first | exact gO (gO (gO y75 (by decide)) (by decide)) (by decide) | simp [Array.getElem?_setIfInBounds, sizeOf36 y36]), (by rw [A1.cell]; first | exact gO (gO (gO y76 (by decide)) (by decide)) (by decide) | simp [Array.getElem?_setIfInBounds, sizeOf36 y36]), (by rw [A1.cell]; first | exact gO (gO (gO y329 (by decide)) (by decide)) (by decide) | simp [Array.getElem?_setIfInBounds, sizeOf36 y36]), (by rw [A1.cell]; first | exact gO (gO (gO y341 (by decide)) (by decide)) (by decide) | simp [Array.getElem?_setIfInBounds, sizeOf36 y36]), A1.frozen, (L1.below (((Below.refl _ _).alloc (Nat.le_refl _) o1)) l1 l2 l3 l4).below ((Below.refl _ _).alloc (Nat.le_refl _) o2) (by simp at l1 ⊢; omega) (by simp at l2 ⊢; omega) (by simp at l3 ⊢; omega) (by simp at l4 ⊢; omega)⟩

set_option maxRecDepth 100000 in
set_option maxHeartbeats 8000000 in
theorem newP (fmt : Int) (w : World) : Calls Tryf.prog 9 #[.int .u8 0, .int .u8 fmt] w (NPP w fmt) := by
  obtain ⟨w1, hw1⟩ : ∃ W, W = w.alloc (.cells pz 164) := ⟨_, rfl⟩
  have at1 : At w1 w.heap.size 164 pz := by rw [hw1]; exact At.new _ _ _
  have s1 : w1.heap.size = w.heap.size + 1 := by rw [hw1]; simp
  have B1 : Below w.heap.size w w1 := by rw [hw1]; exact (Below.refl _ _).alloc (Nat.le_refl _) _
  have hne : w.heap.size ≠ w.heap.size + 1 ∧ w.heap.size ≠ w.heap.size + 1 + 1 + 1 + 1 ∧ w.heap.size ≠ w.heap.size + 1 + 1 + 1 + 1 + 1 ∧ w.heap.size ≠ w.heap.size + 1 + 1 + 1 := by omega
  have HN := Lib.hid (newLog w1 (w.heap.size + 1) s1.symm)
  have HA1 := Lib.hid (fun (w2 : World) (h : Below (w.heap.size + 1) w1 w2) => At.below at1 h (by omega))
  have HB1 := Lib.hid B1
  have HW1 := Lib.hid hw1
  clear at1 B1 s1 hw1
  go_enter Tryf.func9, Tryf.ntmps9
  go_upto_region 2 with (refine wpList_run0 (o := ⟨some 6, .build 164 #[], _, _, _, _⟩) rfl (.agg pz) ?hr ?_; case hr => kernel_rfl)
  rw [← HW1.out]
  go_upto_region 3 with (go_at_call 12; refine HN.out.mono ?_; rintro e w2 ⟨rfl, hlg, hb2, hz2⟩; have a2 := HA1.out w2 hb2; have zf := At.frozen a2; have z51 : w2.cell? ⟨w.heap.size, 51, none⟩ = some (.nilFunc) := (by rw [a2.cell]; kernel_rfl); have z52 : w2.cell? ⟨w.heap.size, 52, none⟩ = some (.nilFunc) := (by rw [a2.cell]; kernel_rfl); have z53 : w2.cell? ⟨w.heap.size, 53, none⟩ = some (.nilFunc) := (by rw [a2.cell]; kernel_rfl); have z54 : w2.cell? ⟨w.heap.size, 54, none⟩ = some (.nilFunc) := (by rw [a2.cell]; kernel_rfl); have z55 : w2.cell? ⟨w.heap.size, 55, none⟩ = some (.int .i8 0) := (by rw [a2.cell]; kernel_rfl); have z56 : w2.cell? ⟨w.heap.size, 56, none⟩ = some (.map none) := (by rw [a2.cell]; kernel_rfl))
  obtain ⟨W3, hW3⟩ : ∃ W, W = ((((((w2.setCell ⟨w.heap.size, 51, none⟩ (.func (.func 21) #[] #[.pointer (some ⟨(w.heap.size + 1), 0, none⟩), .pointer (some ⟨(w.heap.size + 1 + 1 + 1 + 1), 0, none⟩), .pointer (some ⟨(w.heap.size + 1 + 1 + 1 + 1 + 1), 0, none⟩), .pointer (some ⟨(w.heap.size + 1 + 1 + 1), 0, none⟩)])).setCell ⟨w.heap.size, 52, none⟩ (.func (.func 24) #[] #[.pointer (some ⟨(w.heap.size + 1 + 1 + 1 + 1), 0, none⟩), .pointer (some ⟨(w.heap.size + 1 + 1 + 1 + 1 + 1), 0, none⟩)])).setCell ⟨w.heap.size, 53, none⟩ (.func (.func 25) #[] #[.pointer (some ⟨(w.heap.size + 1 + 1 + 1 + 1), 0, none⟩), .pointer (some ⟨(w.heap.size + 1 + 1 + 1), 0, none⟩)])).setCell ⟨w.heap.size, 54, none⟩ (.func (.func 26) #[] #[.pointer (some ⟨(w.heap.size + 1 + 1 + 1 + 1), 0, none⟩), .pointer (some ⟨(w.heap.size + 1 + 1 + 1), 0, none⟩)])).setCell ⟨w.heap.size, 55, none⟩ (.int .i8 3)).setCell ⟨w.heap.size, 56, none⟩ (.map none)) := ⟨_, rfl⟩
  obtain ⟨X3, hX3⟩ : ∃ X, X = ((((((pz.setIfInBounds 51 (.func (.func 21) #[] #[.pointer (some ⟨(w.heap.size + 1), 0, none⟩), .pointer (some ⟨(w.heap.size + 1 + 1 + 1 + 1), 0, none⟩), .pointer (some ⟨(w.heap.size + 1 + 1 + 1 + 1 + 1), 0, none⟩), .pointer (some ⟨(w.heap.size + 1 + 1 + 1), 0, none⟩)])).setIfInBounds 52 (.func (.func 24) #[] #[.pointer (some ⟨(w.heap.size + 1 + 1 + 1 + 1), 0, none⟩), .pointer (some ⟨(w.heap.size + 1 + 1 + 1 + 1 + 1), 0, none⟩)])).setIfInBounds 53 (.func (.func 25) #[] #[.pointer (some ⟨(w.heap.size + 1 + 1 + 1 + 1), 0, none⟩), .pointer (some ⟨(w.heap.size + 1 + 1 + 1), 0, none⟩)])).setIfInBounds 54 (.func (.func 26) #[] #[.pointer (some ⟨(w.heap.size + 1 + 1 + 1 + 1), 0, none⟩), .pointer (some ⟨(w.heap.size + 1 + 1 + 1), 0, none⟩)])).setIfInBounds 55 (.int .i8 3)).setIfInBounds 56 (.map none)) := ⟨_, rfl⟩
  have sx3 : X3.size = 353 := by rw [hX3]; simp [pz_size]
  have A3 : At W3 w.heap.size 164 X3 := by rw [hW3, hX3]; repeat (first | with_reducible exact a2 | with_reducible refine At.set ?_ _ _)
  have B3 : Below (w.heap.size) w2 W3 := by rw [hW3]; repeat (first | with_reducible exact Below.refl _ _ | (with_reducible refine Below.setCell ?_ (by simp) _))
  have L3 : LG W3 (w.heap.size + 1) (w.heap.size + 1 + 1 + 1 + 1) (w.heap.size + 1 + 1 + 1 + 1 + 1) (w.heap.size + 1 + 1 + 1) 0 := by
    rw [hW3]
    repeat (first | with_reducible exact hlg | (with_reducible refine lgFar ?_ _ _ hne))
  have s3 : W3.heap.size = w2.heap.size := by rw [hW3]; simp
  have x13 : X3[13]? = some (.pointer none) := by rw [hX3]; repeat (first | (with_reducible refine gO ?_ (by decide)) | with_reducible exact gS (by simp [pz_size]) _ (by decide) _ | kernel_rfl)
  have x18 : X3[18]? = some (.string ⟨#[]⟩) := by rw [hX3]; repeat (first | (with_reducible refine gO ?_ (by decide)) | with_reducible exact gS (by simp [pz_size]) _ (by decide) _ | kernel_rfl)
  have x23 : X3[23]? = some (.int .u64 0) := by rw [hX3]; repeat (first | (with_reducible refine gO ?_ (by decide)) | with_reducible exact gS (by simp [pz_size]) _ (by decide) _ | kernel_rfl)
  have x25 : X3[25]? = some (.int .u64 0) := by rw [hX3]; repeat (first | (with_reducible refine gO ?_ (by decide)) | with_reducible exact gS (by simp [pz_size]) _ (by decide) _ | kernel_rfl)
  have x36 : X3[36]? = some (.int .u8 0) := by rw [hX3]; repeat (first | (with_reducible refine gO ?_ (by decide)) | with_reducible exact gS (by simp [pz_size]) _ (by decide) _ | kernel_rfl)
  have x51 : X3[51]? = some (.func (.func 21) #[] #[.pointer (some ⟨(w.heap.size + 1), 0, none⟩), .pointer (some ⟨(w.heap.size + 1 + 1 + 1 + 1), 0, none⟩), .pointer (some ⟨(w.heap.size + 1 + 1 + 1 + 1 + 1), 0, none⟩), .pointer (some ⟨(w.heap.size + 1 + 1 + 1), 0, none⟩)]) := by rw [hX3]; repeat (first | (with_reducible refine gO ?_ (by decide)) | with_reducible exact gS (by simp [pz_size]) _ (by decide) _ | kernel_rfl)
  have x52 : X3[52]? = some (.func (.func 24) #[] #[.pointer (some ⟨(w.heap.size + 1 + 1 + 1 + 1), 0, none⟩), .pointer (some ⟨(w.heap.size + 1 + 1 + 1 + 1 + 1), 0, none⟩)]) := by rw [hX3]; repeat (first | (with_reducible refine gO ?_ (by decide)) | with_reducible exact gS (by simp [pz_size]) _ (by decide) _ | kernel_rfl)
  have x53 : X3[53]? = some (.func (.func 25) #[] #[.pointer (some ⟨(w.heap.size + 1 + 1 + 1 + 1), 0, none⟩), .pointer (some ⟨(w.heap.size + 1 + 1 + 1), 0, none⟩)]) := by rw [hX3]; repeat (first | (with_reducible refine gO ?_ (by decide)) | with_reducible exact gS (by simp [pz_size]) _ (by decide) _ | kernel_rfl)
  have x54 : X3[54]? = some (.func (.func 26) #[] #[.pointer (some ⟨(w.heap.size + 1 + 1 + 1 + 1), 0, none⟩), .pointer (some ⟨(w.heap.size + 1 + 1 + 1), 0, none⟩)]) := by rw [hX3]; repeat (first | (with_reducible refine gO ?_ (by decide)) | with_reducible exact gS (by simp [pz_size]) _ (by decide) _ | kernel_rfl)
  have x55 : X3[55]? = some (.int .i8 3) := by rw [hX3]; repeat (first | (with_reducible refine gO ?_ (by decide)) | with_reducible exact gS (by simp [pz_size]) _ (by decide) _ | kernel_rfl)
  have x56 : X3[56]? = some (.map none) := by rw [hX3]; repeat (first | (with_reducible refine gO ?_ (by decide)) | with_reducible exact gS (by simp [pz_size]) _ (by decide) _ | kernel_rfl)
  have x57 : X3[57]? = some (.string ⟨#[]⟩) := by rw [hX3]; repeat (first | (with_reducible refine gO ?_ (by decide)) | with_reducible exact gS (by simp [pz_size]) _ (by decide) _ | kernel_rfl)
  have x58 : X3[58]? = some (.string ⟨#[]⟩) := by rw [hX3]; repeat (first | (with_reducible refine gO ?_ (by decide)) | with_reducible exact gS (by simp [pz_size]) _ (by decide) _ | kernel_rfl)
  have x60 : X3[60]? = some (.string ⟨#[]⟩) := by rw [hX3]; repeat (first | (with_reducible refine gO ?_ (by decide)) | with_reducible exact gS (by simp [pz_size]) _ (by decide) _ | kernel_rfl)
  have x67 : X3[67]? = some (.string ⟨#[]⟩) := by rw [hX3]; repeat (first | (with_reducible refine gO ?_ (by decide)) | with_reducible exact gS (by simp [pz_size]) _ (by decide) _ | kernel_rfl)
  have x68 : X3[68]? = some (.string ⟨#[]⟩) := by rw [hX3]; repeat (first | (with_reducible refine gO ?_ (by decide)) | with_reducible exact gS (by simp [pz_size]) _ (by decide) _ | kernel_rfl)
  have x69 : X3[69]? = some (.string ⟨#[]⟩) := by rw [hX3]; repeat (first | (with_reducible refine gO ?_ (by decide)) | with_reducible exact gS (by simp [pz_size]) _ (by decide) _ | kernel_rfl)
  have x70 : X3[70]? = some (il 0) := by rw [hX3]; repeat (first | (with_reducible refine gO ?_ (by decide)) | with_reducible exact gS (by simp [pz_size]) _ (by decide) _ | kernel_rfl)
  have x71 : X3[71]? = some (il 0) := by rw [hX3]; repeat (first | (with_reducible refine gO ?_ (by decide)) | with_reducible exact gS (by simp [pz_size]) _ (by decide) _ | kernel_rfl)
  have x72 : X3[72]? = some (il 0) := by rw [hX3]; repeat (first | (with_reducible refine gO ?_ (by decide)) | with_reducible exact gS (by simp [pz_size]) _ (by decide) _ | kernel_rfl)
  have x73 : X3[73]? = some (il 0) := by rw [hX3]; repeat (first | (with_reducible refine gO ?_ (by decide)) | with_reducible exact gS (by simp [pz_size]) _ (by decide) _ | kernel_rfl)
  have x74 : X3[74]? = some (.bool false) := by rw [hX3]; repeat (first | (with_reducible refine gO ?_ (by decide)) | with_reducible exact gS (by simp [pz_size]) _ (by decide) _ | kernel_rfl)
  have x75 : X3[75]? = some (.bool false) := by rw [hX3]; repeat (first | (with_reducible refine gO ?_ (by decide)) | with_reducible exact gS (by simp [pz_size]) _ (by decide) _ | kernel_rfl)
  have x76 : X3[76]? = some (.bool false) := by rw [hX3]; repeat (first | (with_reducible refine gO ?_ (by decide)) | with_reducible exact gS (by simp [pz_size]) _ (by decide) _ | kernel_rfl)
  have x104 : X3[104]? = some (.pointer none) := by rw [hX3]; repeat (first | (with_reducible refine gO ?_ (by decide)) | with_reducible exact gS (by simp [pz_size]) _ (by decide) _ | kernel_rfl)
  have x329 : X3[329]? = some (.int .i32 0) := by rw [hX3]; repeat (first | (with_reducible refine gO ?_ (by decide)) | with_reducible exact gS (by simp [pz_size]) _ (by decide) _ | kernel_rfl)
  have x341 : X3[341]? = some (.bool false) := by rw [hX3]; repeat (first | (with_reducible refine gO ?_ (by decide)) | with_reducible exact gS (by simp [pz_size]) _ (by decide) _ | kernel_rfl)
  rw [← hW3]
  clear hW3 hX3 z51 z52 z53 z54 z55 z56 zf
  have B30 := Lib.hid (((HB1.out.trans (hb2.mono (by omega))).trans B3))
  have HL3 := Lib.hid L3
  have HA3 := Lib.hid A3
  have d57 : W3.cell? ⟨w.heap.size, 57, none⟩ = some (.string ⟨#[]⟩) := by rw [A3.cell]; exact x57
  have d58 : W3.cell? ⟨w.heap.size, 58, none⟩ = some (.string ⟨#[]⟩) := by rw [A3.cell]; exact x58
  have d60 : W3.cell? ⟨w.heap.size, 60, none⟩ = some (.string ⟨#[]⟩) := by rw [A3.cell]; exact x60
  have HTK := Lib.hid (track w.heap.size ⟨#[]⟩ ⟨#[]⟩ ⟨#[]⟩ W3 d60 d57 d58)
  have lp3 := A3.lt
  clear d57 d58 d60 A3 L3 B3 a2 hb2 hlg
  have hs3 : w.heap.size + 1 + 1 + 1 + 1 + 1 + 1 = W3.heap.size := by omega
  clear hz2 s3
  go_upto_region 4 with (go_at_call 10; refine HTK.out.mono ?_; rintro e w4 ⟨rfl, hb4⟩; have a4 := HA3.out.below hb4 lp3; have zf := At.frozen a4; have z67 : w4.cell? ⟨w.heap.size, 67, none⟩ = some (.string ⟨#[]⟩) := (by rw [a4.cell]; exact x67); have z68 : w4.cell? ⟨w.heap.size, 68, none⟩ = some (.string ⟨#[]⟩) := (by rw [a4.cell]; exact x68); have z69 : w4.cell? ⟨w.heap.size, 69, none⟩ = some (.string ⟨#[]⟩) := (by rw [a4.cell]; exact x69); have z70 : w4.cell? ⟨w.heap.size, 70, none⟩ = some (il 0) := (by rw [a4.cell]; exact x70); have z71 : w4.cell? ⟨w.heap.size, 71, none⟩ = some (il 0) := (by rw [a4.cell]; exact x71); have z72 : w4.cell? ⟨w.heap.size, 72, none⟩ = some (il 0) := (by rw [a4.cell]; exact x72); have z73 : w4.cell? ⟨w.heap.size, 73, none⟩ = some (il 0) := (by rw [a4.cell]; exact x73); have z74 : w4.cell? ⟨w.heap.size, 74, none⟩ = some (.bool false) := (by rw [a4.cell]; exact x74); have z75 : w4.cell? ⟨w.heap.size, 75, none⟩ = some (.bool false) := (by rw [a4.cell]; exact x75); have z76 : w4.cell? ⟨w.heap.size, 76, none⟩ = some (.bool false) := (by rw [a4.cell]; exact x76))
  obtain ⟨W5, hW5⟩ : ∃ W, W = ((((((((((w4.setCell ⟨w.heap.size, 67, none⟩ (.string ⟨#[]⟩)).setCell ⟨w.heap.size, 68, none⟩ (.string ⟨#[]⟩)).setCell ⟨w.heap.size, 69, none⟩ (.string ⟨#[]⟩)).setCell ⟨w.heap.size, 70, none⟩ (il 0)).setCell ⟨w.heap.size, 71, none⟩ (il 0)).setCell ⟨w.heap.size, 72, none⟩ (il 0)).setCell ⟨w.heap.size, 73, none⟩ (il 0)).setCell ⟨w.heap.size, 74, none⟩ (.bool true)).setCell ⟨w.heap.size, 75, none⟩ (.bool false)).setCell ⟨w.heap.size, 76, none⟩ (.bool true)) := ⟨_, rfl⟩
  obtain ⟨X5, hX5⟩ : ∃ X, X = ((((((((((X3.setIfInBounds 67 (.string ⟨#[]⟩)).setIfInBounds 68 (.string ⟨#[]⟩)).setIfInBounds 69 (.string ⟨#[]⟩)).setIfInBounds 70 (il 0)).setIfInBounds 71 (il 0)).setIfInBounds 72 (il 0)).setIfInBounds 73 (il 0)).setIfInBounds 74 (.bool true)).setIfInBounds 75 (.bool false)).setIfInBounds 76 (.bool true)) := ⟨_, rfl⟩
  have sx5 : X5.size = 353 := by rw [hX5]; simp [sx3]
  have A5 : At W5 w.heap.size 164 X5 := by rw [hW5, hX5]; repeat (first | with_reducible exact a4 | with_reducible refine At.set ?_ _ _)
  have B34 : Below w.heap.size W3 w4 := hb4.mono (by omega)
  have B5 : Below (w.heap.size) W3 W5 := by rw [hW5]; repeat (first | with_reducible exact B34 | (with_reducible refine Below.setCell ?_ (by simp) _))
  have L5 : LG W5 (w.heap.size + 1) (w.heap.size + 1 + 1 + 1 + 1) (w.heap.size + 1 + 1 + 1 + 1 + 1) (w.heap.size + 1 + 1 + 1) 0 := by
    rw [hW5]
    have l4 : LG w4 (w.heap.size + 1) (w.heap.size + 1 + 1 + 1 + 1) (w.heap.size + 1 + 1 + 1 + 1 + 1) (w.heap.size + 1 + 1 + 1) 0 := HL3.out.below hb4 (by omega) (by omega) (by omega) (by omega)
    repeat (first | with_reducible exact l4 | (with_reducible refine lgFar ?_ _ _ hne))
  have s5 : W3.heap.size ≤ W5.heap.size := by rw [hW5]; simpa using hb4.size
  have y13 : X5[13]? = some (.pointer none) := by rw [hX5]; repeat (first | with_reducible exact x13 | (with_reducible refine gO ?_ (by decide)) | with_reducible exact gS (by simp [sx3]) _ (by decide) _)
  have y18 : X5[18]? = some (.string ⟨#[]⟩) := by rw [hX5]; repeat (first | with_reducible exact x18 | (with_reducible refine gO ?_ (by decide)) | with_reducible exact gS (by simp [sx3]) _ (by decide) _)
  have y23 : X5[23]? = some (.int .u64 0) := by rw [hX5]; repeat (first | with_reducible exact x23 | (with_reducible refine gO ?_ (by decide)) | with_reducible exact gS (by simp [sx3]) _ (by decide) _)
  have y25 : X5[25]? = some (.int .u64 0) := by rw [hX5]; repeat (first | with_reducible exact x25 | (with_reducible refine gO ?_ (by decide)) | with_reducible exact gS (by simp [sx3]) _ (by decide) _)
  have y36 : X5[36]? = some (.int .u8 0) := by rw [hX5]; repeat (first | with_reducible exact x36 | (with_reducible refine gO ?_ (by decide)) | with_reducible exact gS (by simp [sx3]) _ (by decide) _)
  have y51 : X5[51]? = some (.func (.func 21) #[] #[.pointer (some ⟨(w.heap.size + 1), 0, none⟩), .pointer (some ⟨(w.heap.size + 1 + 1 + 1 + 1), 0, none⟩), .pointer (some ⟨(w.heap.size + 1 + 1 + 1 + 1 + 1), 0, none⟩), .pointer (some ⟨(w.heap.size + 1 + 1 + 1), 0, none⟩)]) := by rw [hX5]; repeat (first | with_reducible exact x51 | (with_reducible refine gO ?_ (by decide)) | with_reducible exact gS (by simp [sx3]) _ (by decide) _)
  have y52 : X5[52]? = some (.func (.func 24) #[] #[.pointer (some ⟨(w.heap.size + 1 + 1 + 1 + 1), 0, none⟩), .pointer (some ⟨(w.heap.size + 1 + 1 + 1 + 1 + 1), 0, none⟩)]) := by rw [hX5]; repeat (first | with_reducible exact x52 | (with_reducible refine gO ?_ (by decide)) | with_reducible exact gS (by simp [sx3]) _ (by decide) _)
  have y53 : X5[53]? = some (.func (.func 25) #[] #[.pointer (some ⟨(w.heap.size + 1 + 1 + 1 + 1), 0, none⟩), .pointer (some ⟨(w.heap.size + 1 + 1 + 1), 0, none⟩)]) := by rw [hX5]; repeat (first | with_reducible exact x53 | (with_reducible refine gO ?_ (by decide)) | with_reducible exact gS (by simp [sx3]) _ (by decide) _)
  have y54 : X5[54]? = some (.func (.func 26) #[] #[.pointer (some ⟨(w.heap.size + 1 + 1 + 1 + 1), 0, none⟩), .pointer (some ⟨(w.heap.size + 1 + 1 + 1), 0, none⟩)]) := by rw [hX5]; repeat (first | with_reducible exact x54 | (with_reducible refine gO ?_ (by decide)) | with_reducible exact gS (by simp [sx3]) _ (by decide) _)
  have y55 : X5[55]? = some (.int .i8 3) := by rw [hX5]; repeat (first | with_reducible exact x55 | (with_reducible refine gO ?_ (by decide)) | with_reducible exact gS (by simp [sx3]) _ (by decide) _)
  have y56 : X5[56]? = some (.map none) := by rw [hX5]; repeat (first | with_reducible exact x56 | (with_reducible refine gO ?_ (by decide)) | with_reducible exact gS (by simp [sx3]) _ (by decide) _)
  have y57 : X5[57]? = some (.string ⟨#[]⟩) := by rw [hX5]; repeat (first | with_reducible exact x57 | (with_reducible refine gO ?_ (by decide)) | with_reducible exact gS (by simp [sx3]) _ (by decide) _)
  have y58 : X5[58]? = some (.string ⟨#[]⟩) := by rw [hX5]; repeat (first | with_reducible exact x58 | (with_reducible refine gO ?_ (by decide)) | with_reducible exact gS (by simp [sx3]) _ (by decide) _)
  have y60 : X5[60]? = some (.string ⟨#[]⟩) := by rw [hX5]; repeat (first | with_reducible exact x60 | (with_reducible refine gO ?_ (by decide)) | with_reducible exact gS (by simp [sx3]) _ (by decide) _)
  have y67 : X5[67]? = some (.string ⟨#[]⟩) := by rw [hX5]; repeat (first | with_reducible exact x67 | (with_reducible refine gO ?_ (by decide)) | with_reducible exact gS (by simp [sx3]) _ (by decide) _)
  have y68 : X5[68]? = some (.string ⟨#[]⟩) := by rw [hX5]; repeat (first | with_reducible exact x68 | (with_reducible refine gO ?_ (by decide)) | with_reducible exact gS (by simp [sx3]) _ (by decide) _)
  have y69 : X5[69]? = some (.string ⟨#[]⟩) := by rw [hX5]; repeat (first | with_reducible exact x69 | (with_reducible refine gO ?_ (by decide)) | with_reducible exact gS (by simp [sx3]) _ (by decide) _)
  have y70 : X5[70]? = some (il 0) := by rw [hX5]; repeat (first | with_reducible exact x70 | (with_reducible refine gO ?_ (by decide)) | with_reducible exact gS (by simp [sx3]) _ (by decide) _)
  have y71 : X5[71]? = some (il 0) := by rw [hX5]; repeat (first | with_reducible exact x71 | (with_reducible refine gO ?_ (by decide)) | with_reducible exact gS (by simp [sx3]) _ (by decide) _)
  have y72 : X5[72]? = some (il 0) := by rw [hX5]; repeat (first | with_reducible exact x72 | (with_reducible refine gO ?_ (by decide)) | with_reducible exact gS (by simp [sx3]) _ (by decide) _)
  have y73 : X5[73]? = some (il 0) := by rw [hX5]; repeat (first | with_reducible exact x73 | (with_reducible refine gO ?_ (by decide)) | with_reducible exact gS (by simp [sx3]) _ (by decide) _)
  have y74 : X5[74]? = some (.bool true) := by rw [hX5]; repeat (first | with_reducible exact x74 | (with_reducible refine gO ?_ (by decide)) | with_reducible exact gS (by simp [sx3]) _ (by decide) _)
  have y75 : X5[75]? = some (.bool false) := by rw [hX5]; repeat (first | with_reducible exact x75 | (with_reducible refine gO ?_ (by decide)) | with_reducible exact gS (by simp [sx3]) _ (by decide) _)
  have y76 : X5[76]? = some (.bool true) := by rw [hX5]; repeat (first | with_reducible exact x76 | (with_reducible refine gO ?_ (by decide)) | with_reducible exact gS (by simp [sx3]) _ (by decide) _)
  have y104 : X5[104]? = some (.pointer none) := by rw [hX5]; repeat (first | with_reducible exact x104 | (with_reducible refine gO ?_ (by decide)) | with_reducible exact gS (by simp [sx3]) _ (by decide) _)
  have y329 : X5[329]? = some (.int .i32 0) := by rw [hX5]; repeat (first | with_reducible exact x329 | (with_reducible refine gO ?_ (by decide)) | with_reducible exact gS (by simp [sx3]) _ (by decide) _)
  have y341 : X5[341]? = some (.bool false) := by rw [hX5]; repeat (first | with_reducible exact x341 | (with_reducible refine gO ?_ (by decide)) | with_reducible exact gS (by simp [sx3]) _ (by decide) _)
  rw [← hW5]
  clear hW5 hX5 z67 z68 z69 z70 z71 z72 z73 z74 z75 z76 zf
  have HL5 := Lib.hid L5
  have HA5 := Lib.hid A5
  have HB5 := Lib.hid (B30.out.trans B5)
  have zf := At.frozen A5
  have z13 : W5.cell? ⟨w.heap.size, 13, none⟩ = some (.pointer none) := by rw [A5.cell]; exact y13
  have z104 : W5.cell? ⟨w.heap.size, 104, none⟩ = some (.pointer none) := by rw [A5.cell]; exact y104
  have z36 : W5.cell? ⟨w.heap.size, 36, none⟩ = some (.int .u8 0) := by rw [A5.cell]; exact y36
  have lp5 := A5.lt
  clear A5 L5 B5 a4 hb4 HA3 HL3 HTK HA1 HN HW1 x13 x18 x23 x25 x36 x51 x52 x53 x54 x55 x56 x57 x58 x60 x67 x68 x69 x70 x71 x72 x73 x74 x75 x76 x104 x329 x341
  go_wp2_with fail
  go_ret
  exact ⟨rfl, pnEnd hne HA5.out HL5.out y18 y23 y25 y51 y52 y53 y54 y55 y56 y57 y58 y60 y67 y68 y69 y70 y71 y72 y73 y74 y75 y76 y329 y341 y36 y13 y104 _ _ _ _, (by repeat (first | with_reducible exact HB5.out | (with_reducible refine Below.setCell ?_ (by simp) _) | (with_reducible refine Below.alloc ?_ (by simp; omega) _)))⟩
end MF
end Go.Proofs.YtkkkamniccgblaaFmt
