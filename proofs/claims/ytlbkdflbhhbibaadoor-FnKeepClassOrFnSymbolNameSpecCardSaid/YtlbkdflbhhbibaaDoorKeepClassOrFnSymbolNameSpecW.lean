/- Proved here: the walk of FnKeepClassOrFnSymbolNameSpec: it returns true. Conditions: the arguments lie as stated. -/
import Derived.Test.YtlbkdflbhhbibaaDoorUNR
import Derived.WalkKit
import Derived.WalkSpells
import Derived.WalkLawsBesides
import Derived.Lib.Hide
import Derived.Lib.SliceRun
import Derived.Deep.RegionWith
import Derived.OwnWalk
import Derived.Laws.OwnMore
import Derived.BigRegion
namespace Go.Proofs.YtlbkdflbhhbibaaDoor
open Go.RowKit
set_option linter.unusedSimpArgs false
set_option linter.unusedVariables false

theorem NC.setT {w : World} {e0 : Nat} {l l2 : Int} {d : Value} {s : ByteArray} {u : Bool} (h : NC w e0 l l2 d s u) {x : Nat} {t : TypeId} {cs : Array Value} (hx : At w x t cs) (ht : t ≠ 52 ∧ t ≠ 201 ∧ t ≠ 208 ∧ t ≠ 209) (h39 : t ≠ 39) (j : Nat) (val : Value) : NC (w.setCell ⟨x, j, none⟩ val) e0 l l2 d s u := by
  obtain ⟨i, r, q, D, v, h⟩ := h
  exact ⟨i, r, q, D, v, h.set hx ht (atNe2 h.2.2.1 hx h39.symm) j val⟩
set_option maxRecDepth 100000 in
set_option maxHeartbeats 8000000 in
theorem zkeepC (B b m : Nat) (l0 l l2 : Int) (k : Nat) (t : TypeId) (pd : Value) (s : ByteArray) (W : World) (hs : s.size ≤ 1048576) (hB : B ≤ W.heap.size) (hb : b < W.heap.size) (h : IMPH B b m l0 l k W) :
    Calls Tryd.prog 7 #[.pointer (some ⟨b, 0, none⟩), .agg #[.int .i32 l], .agg #[.iface t pd, .int .i32 l2], .string s] W (KCP B b m l0 l k l2 (.iface t pd) s W) := by
  have HI := Lib.hid h
  clear h
  go_enter Tryd.func7, Tryd.ntmps7
  go_wp2_with fail
  obtain ⟨V, hV⟩ : ∃ V, V = ((W.alloc (.cells #[.int .i32 l] 29)).alloc (.cells #[.iface t pd, .int .i32 l2] 39)).alloc (.cells #[.nilIface, .int .i32 0] 31) := ⟨_, rfl⟩
  have hWV : Below W.heap.size W V := by rw [hV]; exact (((Below.refl _ _).alloc (Nat.le_refl _) _).alloc (by simp) _).alloc (by simp; omega) _
  have A8 : At V (W.heap.size + 1 + 1) 31 #[.nilIface, .int .i32 0] := by
    rw [hV]
    have := At.new ((W.alloc (.cells #[.int .i32 l] 29)).alloc (.cells #[.iface t pd, .int .i32 l2] 39)) 31 #[.nilIface, .int .i32 0]
    rwa [show ((W.alloc (.cells #[.int .i32 l] 29)).alloc (.cells #[.iface t pd, .int .i32 l2] 39)).heap.size = W.heap.size + 1 + 1 from by simp] at this
  rw [← hV]
  have HV := HI.out.below hWV
  have zV := hWV.size
  clear hV
  refine (keepC B b m l0 l l2 k t pd s V hs (by omega) (by omega) HV).mono ?_
  rintro e Z ⟨x, e0, rfl, hx, hnc, hp, hkq, hbl⟩
  have zZ := hbl.size
  have A8 := A8.kq hkq (by decide) (by decide) (by decide)
  have c0 : Z.cell? ⟨W.heap.size + 1 + 1, 0, none⟩ = some .nilIface := by rw [A8.cell]; rfl
  have c1 : Z.cell? ⟨W.heap.size + 1 + 1, 1, none⟩ = some (.int .i32 0) := by rw [A8.cell]; rfl
  have f0 := A8.frozen 0
  have f1 := A8.frozen 1
  have l8 := A8.lt
  have hq0 : W.heap.size ≤ W.heap.size + 1 + 1 := by omega
  have ne : x ≠ W.heap.size + 1 + 1 := atNe2 hx A8 (by decide)
  have END := Lib.hid (show KCP B b m l0 l k l2 (.iface t pd) s W (.returned (.agg #[.iface 40 (.pointer (some ⟨x, 0, none⟩)), .int .i32 l])) ((Z.setCell ⟨W.heap.size + 1 + 1, 0, none⟩ (.iface 40 (.pointer (some ⟨x, 0, none⟩)))).setCell ⟨W.heap.size + 1 + 1, 1, none⟩ (.int .i32 l)) from ⟨x, e0, rfl, (hx.far (by simpa using ne) _).far (by simpa using ne) _, (hnc.setT A8 (by decide) (by decide) 0 _).setT (A8.set 0 _) (by decide) (by decide) 1 _, (hp.set A8 (by decide) (by omega) 0 _).set (A8.set 0 _) (by decide) (by omega) 1 _, (((Kq.of_below hWV).trans hkq).set hq0 0 _).set hq0 1 _, ((((hWV.mono hB).trans hbl).setCell (by simp; omega) _).setCell (by simp; omega) _)⟩)
  clear hx hnc hp hkq hbl A8 hWV HI HV
  go_wp2_with fail
  exact bodyPost_ret (v := .agg #[.iface 40 (.pointer (some ⟨x, 0, none⟩)), .int .i32 l]) (by simp [results, Tryd.results7, go_sem, *]) rfl END.out
end Go.Proofs.YtlbkdflbhhbibaaDoor
namespace Go.Proofs.YtlbkdflbhhbibaaDoor.fnKeepClassOrFnSymbolNameSpec
open Go.RowKit

theorem bytes_yes (l l2 : Int) (f : Nat) (s : ByteArray) (w : World) (h : s.size ≤ 1048576) : Calls Tryd.prog 5 #[.int .i32 l, .int .i32 l2, .float .f64 f, .string s] w fun e w' => e = .returned (.bool true) ∧ w = w' := by
  go_enter Tryd.func5, Tryd.ntmps5
  go_wp2_with fail
  go_ret
  exact ⟨rfl, rfl⟩
theorem bytes_no (l l2 : Int) (f : Nat) (s : ByteArray) (w : World) (h : ¬ s.size ≤ 1048576) : Calls Tryd.prog 5 #[.int .i32 l, .int .i32 l2, .float .f64 f, .string s] w fun e w' => e = .returned (.bool false) ∧ w = w' := by
  have h1 : (1048576 : Int) < (s.size : Int) := by omega
  go_enter Tryd.func5, Tryd.ntmps5
  go_wp2_with fail
  go_ret
  exact ⟨rfl, rfl⟩

set_option maxRecDepth 100000 in
set_option maxHeartbeats 16000000 in
theorem walk (a0 : Int) (a1 : Int) (a2 : Nat) (a3 : ByteArray) (w : World) (w0 : (Lit.int .i32 a0).wf = true) (w1 : (Lit.int .i32 a1).wf = true) (w2 : (Lit.float .f64 a2).wf = true) (w3 : a3.size ≤ maxLen)
    (hg0 : w.cell? ⟨0, 0, none⟩ = some (.int .u32 4294967295)) (hg1 : w.cell? ⟨0, 1, none⟩ = some (.int .u32 4294967295)) :
    Calls Tryd.prog 3 #[.int .i32 a0, .int .i32 a1, .float .f64 a2, .string a3] w fun e w' => e = .returned (.bool true) ∧ Below w.heap.size w w' := by
  clear w0 w1 w2
  by_cases hs : a3.size ≤ 1048576
  · have lw0 : 0 < w.heap.size := World.block_lt_of_cell? _ _ hg0
    go_enter Tryd.func3, Tryd.ntmps3
    go_wp2_with fail
    refine (bytes_yes _ _ _ _ _ hs).mono ?_
    rintro e w' ⟨rfl, rfl⟩
    go_wp2_with fail
    refine (newP w).mono ?_
    rintro e w1 ⟨b, m, c, rfl, hp0, hb1⟩
    have HP0 := Lib.hid hp0
    have HB1 := Lib.hid hb1
    have lb1 : b < w1.heap.size := by obtain ⟨_, _, _, h, _⟩ := hp0; exact World.block_lt_of_cell? _ _ h
    clear hp0 hb1
    go_wp2_with fail
    obtain ⟨W, hW⟩ : ∃ W, W = w1.alloc (.cells #[.float .f64 a2] 35) := ⟨_, rfl⟩
    rw [← hW]
    obtain ⟨z, hz⟩ : ∃ z, z = w1.heap.size := ⟨_, rfl⟩
    rw [← hz]
    have AZ : At W z 35 #[.float .f64 a2] := by rw [hW, hz]; exact At.new _ _ _
    have hb2 : Below w1.heap.size w1 W := by rw [hW]; exact (Below.refl _ _).alloc (Nat.le_refl _) _
    have B2 := HB1.out.trans (hb2.mono HB1.out.size)
    have HAZ := Lib.hid AZ
    have zW := hb2.size
    have zW0 := B2.size
    have HIM := imph0 (l := a0) lw0 B2.size (kept B2 hg0) (kept B2 hg1) (HP0.out.below hb2)
    have HB2 := Lib.hid B2
    clear hW hz hb2 B2 AZ HP0 HB1
    refine (zkeepC w.heap.size b m a0 a0 a1 0 33 (.pointer (some ⟨z, 0, none⟩)) a3 W hs zW0 (by omega) HIM).mono ?_
    rintro e Z ⟨x, e0, rfl, hx, hnc, hp, hkq, hbl⟩
    have AZ := HAZ.out.kq hkq (by decide) (by decide) (by decide)
    obtain ⟨V, hV⟩ : ∃ V, V = Z.alloc (.cells #[.iface 40 (.pointer (some ⟨x, 0, none⟩)), .int .i32 a0] 31) := ⟨_, rfl⟩
    have hZV : Below Z.heap.size Z V := by rw [hV]; exact (Below.refl _ _).alloc (Nat.le_refl _) _
    have BV := Lib.hid (show Below w.heap.size w V from HB2.out.trans (hbl.trans (hZV.mono (by have := hbl.size; omega))))
    have NV := Lib.hid (hnc.kq (Kq.of_below hZV))
    have PV := Lib.hid (hp.below hZV)
    have XV := Lib.hid (hx.below hZV hx.lt)
    have ZV : V.cell? ⟨z, 0, none⟩ = some (.float .f64 a2) := by rw [(AZ.below hZV AZ.lt).cell]; rfl
    have ne1 : (a0 != a0) = false := by simp
    have HSX := Lib.hid (fun w => asSExpr x a0 w)
    have HCA := Lib.hid (fun w => asCall e0 a0 w)
    clear hx hnc hp hkq hbl hZV AZ HIM
    go_wp2_with fail
    rw [← hV]
    refine (HSX.out V).mono ?_
    rintro e V1 ⟨rfl, hb3⟩
    have X1 := XV.out.below hb3 XV.out.lt
    have c0 : V1.cell? ⟨x, 0, none⟩ = some (.iface 45 (.pointer (some ⟨e0, 0, none⟩))) := by rw [X1.cell]; rfl
    have c1 : V1.cell? ⟨x, 1, none⟩ = some (.int .i32 a0) := by rw [X1.cell]; rfl
    have c2 : V1.cell? ⟨x, 2, none⟩ = some (.bool true) := by rw [X1.cell]; rfl
    have lx := X1.lt
    have B3 := Lib.hid hb3
    clear X1 hb3
    go_wp2_with fail
    refine (HCA.out V1).mono ?_
    rintro e V2 ⟨rfl, hb4⟩
    have B4 := Lib.hid (show Below V.heap.size V V2 from B3.out.trans (hb4.mono B3.out.size))
    have N2 := Lib.hid (NV.out.kq (Kq.of_below B4.out))
    have P2 := Lib.hid (PV.out.below B4.out)
    have d7 : V2.cell? ⟨e0, 7, none⟩ = some (.bool false) := by
      obtain ⟨i, r, q, D, v, h1, _⟩ := N2.out
      rw [h1.cell]; rfl
    have le := World.block_lt_of_cell? _ _ d7
    have HNC := Lib.hid (nameCall w.heap.size b m a0 a0 a1 1 e0 z a2 a3 false V2 hs P2.out N2.out (kept B4.out ZV))
    clear hb4 c0 c1 c2
    go_wp2_with fail
    refine HNC.out.mono ?_
    rintro e V3 ⟨rfl, hb5⟩
    have B5 := Lib.hid (show Below w.heap.size w V3 from BV.out.trans ((B4.out.trans (hb5.mono B4.out.size)).mono BV.out.size))
    clear hb5
    go_wp2_with fail
    go_ret
    exact ⟨rfl, B5.out⟩
  · go_enter Tryd.func3, Tryd.ntmps3
    go_wp2_with fail
    refine (bytes_no _ _ _ _ _ hs).mono ?_
    rintro e w' ⟨rfl, rfl⟩
    go_wp2_with fail
    go_ret
    exact ⟨rfl, Below.refl _ _⟩
end Go.Proofs.YtlbkdflbhhbibaaDoor.fnKeepClassOrFnSymbolNameSpec
