/- Proved here: the contracts of the wrappers of the two keepers of names. Conditions as stated. -/
import Derived.Test.YtlbkdflbhhbibaaDoorUNE
import Derived.WalkKit
import Derived.WalkSpells
import Derived.WalkLawsBesides
import Derived.Lib.Hide
import Derived.Lib.SliceRun
import Derived.Deep.RegionWith
import Derived.OwnWalk
import Derived.Laws.OwnMore
import Derived.BigRegion
namespace Go.Proofs.YtlbkdflbhhbibaaDoor
open Go.RowKit
set_option linter.unusedSimpArgs false
set_option linter.unusedVariables false

theorem NC.setT {w : World} {e0 : Nat} {l l2 : Int} {d : Value} {s : ByteArray} {u : Bool} (h : NC w e0 l l2 d s u) {x : Nat} {t : TypeId} {cs : Array Value} (hx : At w x t cs) (ht : t ≠ 52 ∧ t ≠ 201 ∧ t ≠ 208 ∧ t ≠ 209) (h39 : t ≠ 39) (j : Nat) (val : Value) : NC (w.setCell ⟨x, j, none⟩ val) e0 l l2 d s u := by
  obtain ⟨i, r, q, D, v, h⟩ := h
  exact ⟨i, r, q, D, v, h.set hx ht (atNe2 h.2.2.1 hx h39.symm) j val⟩
set_option maxRecDepth 100000 in
set_option maxHeartbeats 8000000 in
theorem zkeepC (B b m : Nat) (l0 l l2 : Int) (k : Nat) (t : TypeId) (pd : Value) (s : ByteArray) (W : World) (hs : s.size ≤ 1048576) (hB : B ≤ W.heap.size) (hb : b < W.heap.size) (h : IMPH B b m l0 l k W) :
    Calls Tryd.prog 7 #[.pointer (some ⟨b, 0, none⟩), .agg #[.int .i32 l], .agg #[.iface t pd, .int .i32 l2], .string s] W (KCP B b m l0 l k l2 (.iface t pd) s W) := by
  have HI := Lib.hid h
  clear h
  go_enter Tryd.func7, Tryd.ntmps7
  go_wp2_with fail
  obtain ⟨V, hV⟩ : ∃ V, V = ((W.alloc (.cells #[.int .i32 l] 29)).alloc (.cells #[.iface t pd, .int .i32 l2] 39)).alloc (.cells #[.nilIface, .int .i32 0] 31) := ⟨_, rfl⟩
  have hWV : Below W.heap.size W V := by rw [hV]; exact (((Below.refl _ _).alloc (Nat.le_refl _) _).alloc (by simp) _).alloc (by simp; omega) _
  have A8 : At V (W.heap.size + 1 + 1) 31 #[.nilIface, .int .i32 0] := by
    rw [hV]
    have := At.new ((W.alloc (.cells #[.int .i32 l] 29)).alloc (.cells #[.iface t pd, .int .i32 l2] 39)) 31 #[.nilIface, .int .i32 0]
    rwa [show ((W.alloc (.cells #[.int .i32 l] 29)).alloc (.cells #[.iface t pd, .int .i32 l2] 39)).heap.size = W.heap.size + 1 + 1 from by simp] at this
  rw [← hV]
  have HV := HI.out.below hWV
  have zV := hWV.size
  clear hV
  refine (keepC B b m l0 l l2 k t pd s V hs (by omega) (by omega) HV).mono ?_
  rintro e Z ⟨x, e0, rfl, hx, hnc, hp, hkq, hbl⟩
  have zZ := hbl.size
  have A8 := A8.kq hkq (by decide) (by decide) (by decide)
  have c0 : Z.cell? ⟨W.heap.size + 1 + 1, 0, none⟩ = some .nilIface := by rw [A8.cell]; rfl
  have c1 : Z.cell? ⟨W.heap.size + 1 + 1, 1, none⟩ = some (.int .i32 0) := by rw [A8.cell]; rfl
  have f0 := A8.frozen 0
  have f1 := A8.frozen 1
  have l8 := A8.lt
  have hq0 : W.heap.size ≤ W.heap.size + 1 + 1 := by omega
  have ne : x ≠ W.heap.size + 1 + 1 := atNe2 hx A8 (by decide)
  have END := Lib.hid (show KCP B b m l0 l k l2 (.iface t pd) s W (.returned (.agg #[.iface 40 (.pointer (some ⟨x, 0, none⟩)), .int .i32 l])) ((Z.setCell ⟨W.heap.size + 1 + 1, 0, none⟩ (.iface 40 (.pointer (some ⟨x, 0, none⟩)))).setCell ⟨W.heap.size + 1 + 1, 1, none⟩ (.int .i32 l)) from ⟨x, e0, rfl, (hx.far (by simpa using ne) _).far (by simpa using ne) _, (hnc.setT A8 (by decide) (by decide) 0 _).setT (A8.set 0 _) (by decide) (by decide) 1 _, (hp.set A8 (by decide) (by omega) 0 _).set (A8.set 0 _) (by decide) (by omega) 1 _, (((Kq.of_below hWV).trans hkq).set hq0 0 _).set hq0 1 _, ((((hWV.mono hB).trans hbl).setCell (by simp; omega) _).setCell (by simp; omega) _)⟩)
  clear hx hnc hp hkq hbl A8 hWV HI HV
  go_wp2_with fail
  exact bodyPost_ret (v := .agg #[.iface 40 (.pointer (some ⟨x, 0, none⟩)), .int .i32 l]) (by simp [results, Tryd.results7, go_sem, *]) rfl END.out

theorem NC.set39 {w : World} {e0 : Nat} {l l2 : Int} {d : Value} {s : ByteArray} {u : Bool} (h : NC w e0 l l2 d s u) {x : Nat} {cs : Array Value} (hx : At w x 39 cs) (hc : cs.size = 2) (j : Nat) (val : Value) : NC (w.setCell ⟨x, j, none⟩ val) e0 l l2 d s u := by
  obtain ⟨i, r, q, D, v, h⟩ := h
  have hr : r ≠ x := by
    rintro rfl
    have h3 := h.2.2.1
    unfold At at hx h3
    rw [hx] at h3
    simp only [Option.some.injEq, Obj.cells.injEq] at h3
    rw [h3.1] at hc
    simp at hc
  exact ⟨i, r, q, D, v, h.set hx (by decide) hr j val⟩
set_option maxRecDepth 100000 in
set_option maxHeartbeats 8000000 in
theorem zkeepE (B b m : Nat) (l0 l : Int) (k : Nat) (t : TypeId) (pd : Value) (s : ByteArray) (W : World) (hs : s.size ≤ 1048576) (hB : B ≤ W.heap.size) (hb : b < W.heap.size) (h : IMPH B b m l0 l k W) :
    Calls Tryd.prog 12 #[.pointer (some ⟨b, 0, none⟩), .agg #[.iface t pd, .int .i32 l], .string s] W (KEP B b m l0 l k (.iface t pd) s W) := by
  have HI := Lib.hid h
  clear h
  go_enter Tryd.func12, Tryd.ntmps12
  go_wp2_with fail
  obtain ⟨V, hV⟩ : ∃ V, V = (W.alloc (.cells #[.iface t pd, .int .i32 l] 39)).alloc (.cells #[.nilIface, .int .i32 0] 39) := ⟨_, rfl⟩
  have hWV : Below W.heap.size W V := by rw [hV]; exact ((Below.refl _ _).alloc (Nat.le_refl _) _).alloc (by simp) _
  have A6 : At V (W.heap.size + 1) 39 #[.nilIface, .int .i32 0] := by
    rw [hV]
    have := At.new (W.alloc (.cells #[.iface t pd, .int .i32 l] 39)) 39 #[.nilIface, .int .i32 0]
    rwa [show (W.alloc (.cells #[.iface t pd, .int .i32 l] 39)).heap.size = W.heap.size + 1 from by simp] at this
  rw [← hV]
  have HV := HI.out.below hWV
  have zV := hWV.size
  clear hV
  refine (keepE B b m l0 l k t pd s V hs (by omega) (by omega) HV).mono ?_
  rintro e Z ⟨e0, rfl, hnc, hp, hkq, hbl⟩
  have zZ := hbl.size
  have A6 := A6.kq hkq (by decide) (by decide) (by decide)
  have c0 : Z.cell? ⟨W.heap.size + 1, 0, none⟩ = some .nilIface := by rw [A6.cell]; rfl
  have c1 : Z.cell? ⟨W.heap.size + 1, 1, none⟩ = some (.int .i32 0) := by rw [A6.cell]; rfl
  have f0 := A6.frozen 0
  have f1 := A6.frozen 1
  have l6 := A6.lt
  have hq0 : W.heap.size ≤ W.heap.size + 1 := by omega
  have END := Lib.hid (show KEP B b m l0 l k (.iface t pd) s W (.returned (.agg #[.iface 45 (.pointer (some ⟨e0, 0, none⟩)), .int .i32 l])) ((Z.setCell ⟨W.heap.size + 1, 0, none⟩ (.iface 45 (.pointer (some ⟨e0, 0, none⟩)))).setCell ⟨W.heap.size + 1, 1, none⟩ (.int .i32 l)) from ⟨e0, rfl, (hnc.set39 A6 (by simp) 0 _).set39 (A6.set 0 _) (by simp) 1 _, (hp.set A6 (by decide) (by omega) 0 _).set (A6.set 0 _) (by decide) (by omega) 1 _, (((Kq.of_below hWV).trans hkq).set hq0 0 _).set hq0 1 _, ((((hWV.mono hB).trans hbl).setCell (by simp; omega) _).setCell (by simp; omega) _)⟩)
  clear hnc hp hkq hbl A6 hWV HI HV
  go_wp2_with fail
  exact bodyPost_ret (v := .agg #[.iface 45 (.pointer (some ⟨e0, 0, none⟩)), .int .i32 l]) (by simp [results, Tryd.results12, go_sem, *]) rfl END.out
end Go.Proofs.YtlbkdflbhhbibaaDoor
