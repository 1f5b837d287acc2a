/- Proved here: the contracts of the readers of calls. Conditions as stated. -/
import Derived.Test.YtjlmaingeobgeaaDoorOSB
import Derived.WalkKit
import Derived.WalkSpells
import Derived.WalkLawsBesides
import Derived.Lib.Hide
import Derived.Lib.SliceRun
import Derived.Deep.RegionWith
import Derived.OwnWalk
import Derived.Laws.OwnMore
import Derived.BigRegion
import Derived.Carry
namespace Go.Proofs.YtjlmaingeobgeaaDoor
open Go.RowKit
set_option linter.unusedSimpArgs false
set_option linter.unusedVariables false

set_option maxRecDepth 100000 in
theorem asObj (p : Nat) (l : Int) (w : World) : Calls Tryd.prog 32 #[.agg #[.iface 59 (.pointer (some ⟨p, 0, none⟩)), .int .i32 l]] w fun e w' => e = .returned (.pointer (some ⟨p, 0, none⟩)) ∧ Below w.heap.size w w' := by
  go_enter Tryd.func32, Tryd.ntmps32
  go_wp2_with fail
  go_ret
  exact ⟨rfl, (by repeat (first | with_reducible exact Below.refl _ _ | (with_reducible refine Below.drew ?_) | (with_reducible refine Below.alloc ?_ (by simp; try omega) _) | (with_reducible refine Below.setCell ?_ (by simp; try omega) _)))⟩

set_option maxRecDepth 100000 in
theorem asNum (p : Nat) (l : Int) (w : World) : Calls Tryd.prog 58 #[.agg #[.iface 212 (.pointer (some ⟨p, 0, none⟩)), .int .i32 l]] w fun e w' => e = .returned (.pointer (some ⟨p, 0, none⟩)) ∧ Below w.heap.size w w' := by
  go_enter Tryd.func58, Tryd.ntmps58
  go_wp2_with fail
  go_ret
  exact ⟨rfl, (by repeat (first | with_reducible exact Below.refl _ _ | (with_reducible refine Below.drew ?_) | (with_reducible refine Below.alloc ?_ (by simp; try omega) _) | (with_reducible refine Below.setCell ?_ (by simp; try omega) _)))⟩

set_option maxRecDepth 100000 in
theorem asCall (p : Nat) (l : Int) (w : World) : Calls Tryd.prog 80 #[.agg #[.iface 312 (.pointer (some ⟨p, 0, none⟩)), .int .i32 l]] w fun e w' => e = .returned (.pointer (some ⟨p, 0, none⟩)) ∧ Below w.heap.size w w' := by
  go_enter Tryd.func80, Tryd.ntmps80
  go_wp2_with fail
  go_ret
  exact ⟨rfl, (by repeat (first | with_reducible exact Below.refl _ _ | (with_reducible refine Below.drew ?_) | (with_reducible refine Below.alloc ?_ (by simp; try omega) _) | (with_reducible refine Below.setCell ?_ (by simp; try omega) _)))⟩

set_option maxRecDepth 100000 in
theorem asId (p : Nat) (l : Int) (w : World) : Calls Tryd.prog 95 #[.agg #[.iface 292 (.pointer (some ⟨p, 0, none⟩)), .int .i32 l]] w fun e w' => e = .returned (.pointer (some ⟨p, 0, none⟩)) ∧ Below w.heap.size w w' := by
  go_enter Tryd.func95, Tryd.ntmps95
  go_wp2_with fail
  go_ret
  exact ⟨rfl, (by repeat (first | with_reducible exact Below.refl _ _ | (with_reducible refine Below.drew ?_) | (with_reducible refine Below.alloc ?_ (by simp; try omega) _) | (with_reducible refine Below.setCell ?_ (by simp; try omega) _)))⟩

set_option maxRecDepth 100000 in
theorem iRef (r i : Nat) (l : Int) (w : World) (h : At w i 294 #[.int .u32 0, .int .u32 r, .bool false, .bool false, .bool false]) :
    Calls Tryd.prog 88 #[.agg #[.iface 292 (.pointer (some ⟨i, 0, none⟩)), .int .i32 l]] w fun e w' => e = .returned (.tuple #[.agg #[.int .u32 0, .int .u32 r], .bool true]) ∧ Below w.heap.size w w' := by
  have H := Lib.hid h
  have li := h.lt
  clear h
  go_enter Tryd.func88, Tryd.ntmps88
  go_wp2_with fail
  refine (asId i l _).mono ?_
  rintro e w1 ⟨rfl, hb⟩
  obtain ⟨V, hV⟩ : ∃ V, V = (w.alloc (.cells #[.iface 292 (.pointer (some ⟨i, 0, none⟩)), .int .i32 l] 35)).alloc (.cells #[.int .u32 0, .int .u32 0] 206) := ⟨_, rfl⟩
  rw [← hV] at hb
  have hWV : Below w.heap.size w V := by rw [hV]; exact ((Below.refl _ _).alloc (Nat.le_refl _) _).alloc (by simp) _
  have A2 : At V (w.heap.size + 1) 206 #[.int .u32 0, .int .u32 0] := by
    rw [hV]
    have := At.new (w.alloc (.cells #[.iface 292 (.pointer (some ⟨i, 0, none⟩)), .int .i32 l] 35)) 206 #[.int .u32 0, .int .u32 0]
    rwa [show (w.alloc (.cells #[.iface 292 (.pointer (some ⟨i, 0, none⟩)), .int .i32 l] 35)).heap.size = w.heap.size + 1 from by simp] at this
  have zV := hWV.size
  clear hV
  have A3 := A2.below hb A2.lt
  have AI := (H.out.below hWV li).below hb (by omega)
  have c0 : w1.cell? ⟨i, 0, none⟩ = some (.int .u32 0) := by rw [AI.cell]; rfl
  have c1 : w1.cell? ⟨i, 1, none⟩ = some (.int .u32 r) := by rw [AI.cell]; rfl
  have d0 : w1.cell? ⟨w.heap.size + 1, 0, none⟩ = some (.int .u32 0) := by rw [A3.cell]; rfl
  have d1 : w1.cell? ⟨w.heap.size + 1, 1, none⟩ = some (.int .u32 0) := by rw [A3.cell]; rfl
  have f0 := A3.frozen 0
  have f1 := A3.frozen 1
  have l2 := A3.lt
  have l3 := AI.lt
  have ne : ¬ i = w.heap.size + 1 := by omega
  have ne' : ¬ w.heap.size + 1 = i := by omega
  have HB := Lib.hid (hWV.trans (hb.mono (by omega)))
  clear A2 A3 AI hb hWV H
  go_wp2_with fail
  refine bodyPost_ret (v := .tuple #[.agg #[.int .u32 0, .int .u32 r], .bool true]) (by simp [results, Tryd.results88, go_sem, *]) rfl ⟨rfl, ?_⟩
  exact (HB.out.setCell (by simp) _).setCell (by simp) _
set_option maxRecDepth 100000 in
theorem isH (r i : Nat) (l : Int) (w : World) (h : At w i 294 #[.int .u32 0, .int .u32 r, .bool false, .bool false, .bool false]) :
    Calls Tryd.prog 81 #[.agg #[.iface 292 (.pointer (some ⟨i, 0, none⟩)), .int .i32 l], .int .u32 r] w fun e w' => e = .returned (.bool true) ∧ Below w.heap.size w w' := by
  go_enter Tryd.func81, Tryd.ntmps81
  go_wp2_with fail
  refine (iRef r i l _ (h.alloc _)).mono ?_
  rintro e w1 ⟨rfl, hb⟩
  have HB := Lib.hid (show Below w.heap.size w w1 from ((Below.refl _ w).alloc (Nat.le_refl _) _).trans (hb.mono (by simp)))
  clear hb h
  go_wp2_with fail
  go_ret
  exact ⟨by simp, (by repeat (first | with_reducible exact HB.out | (with_reducible refine Below.drew ?_) | (with_reducible refine Below.alloc ?_ (by have := HB.out.size; simp; try omega) _) | (with_reducible refine Below.setCell ?_ (by have := HB.out.size; simp; try omega) _)))⟩
/-- A call of the helper r with two arguments. -/
structure HC (w : World) (e0 r : Nat) (d0 : Value) (x0 : Int) (d1 : Value) (x1 : Int) (e0i ab : Nat) : Prop where
  call : ∃ l0, At w e0 317 #[.iface 292 (.pointer (some ⟨e0i, 0, none⟩)), .int .i32 l0, .slice (some ⟨ab, 0, none⟩) 2 2, .int .i32 0, .int .u8 0, .int .u8 0, .bool false, .bool false]
  ident : At w e0i 294 #[.int .u32 0, .int .u32 r, .bool false, .bool false, .bool false]
  args : At w ab 35 #[d0, .int .i32 x0, d1, .int .i32 x1]
theorem HC.below {w w' : World} {e0 r : Nat} {d0 : Value} {x0 : Int} {d1 : Value} {x1 : Int} {i ab : Nat} (h : HC w e0 r d0 x0 d1 x1 i ab) (hb : Below w.heap.size w w') : HC w' e0 r d0 x0 d1 x1 i ab := by
  obtain ⟨⟨l0, h1⟩, h2, h3⟩ := h
  exact ⟨⟨l0, h1.below hb h1.lt⟩, h2.below hb h2.lt, h3.below hb h3.lt⟩
set_option maxRecDepth 100000 in
set_option maxHeartbeats 4000000 in
theorem callOf (e0 r : Nat) (T0 T1 : TypeId) (p0 p1 : Value) (x0 x1 l : Int) (i ab : Nat) (w : World) (h : HC w e0 r (.iface T0 p0) x0 (.iface T1 p1) x1 i ab) :
    Calls Tryd.prog 57 #[.agg #[.iface 312 (.pointer (some ⟨e0, 0, none⟩)), .int .i32 l], .int .u32 r, .int .i32 l] w fun e w' => e = .returned (.tuple #[.agg #[.iface T0 p0, .int .i32 x0], .agg #[.iface T1 p1, .int .i32 x1], .bool true]) ∧ Below w.heap.size w w' := by
  have H := Lib.hid h
  have le0 : e0 < w.heap.size := by obtain ⟨⟨_, h1⟩, _⟩ := h; exact h1.lt
  have lab : ab < w.heap.size := h.args.lt
  clear h
  go_enter Tryd.func57, Tryd.ntmps57
  go_wp2_with fail
  obtain ⟨V, hV⟩ : ∃ V, V = ((w.alloc (.cells #[.iface 312 (.pointer (some ⟨e0, 0, none⟩)), .int .i32 l] 35)).alloc (.cells #[.nilIface, .int .i32 0] 35)).alloc (.cells #[.nilIface, .int .i32 0] 35) := ⟨_, rfl⟩
  have hWV : Below w.heap.size w V := by rw [hV]; exact (((Below.refl _ _).alloc (Nat.le_refl _) _).alloc (by simp) _).alloc (by simp; omega) _
  have A3 : At V w.heap.size 35 #[.iface 312 (.pointer (some ⟨e0, 0, none⟩)), .int .i32 l] := by rw [hV]; exact ((At.new w 35 _).alloc _).alloc _
  have A6 : At V (w.heap.size + 1) 35 #[.nilIface, .int .i32 0] := by
    rw [hV]
    have := At.new (w.alloc (.cells #[.iface 312 (.pointer (some ⟨e0, 0, none⟩)), .int .i32 l] 35)) 35 #[.nilIface, .int .i32 0]
    rw [show (w.alloc (.cells #[.iface 312 (.pointer (some ⟨e0, 0, none⟩)), .int .i32 l] 35)).heap.size = w.heap.size + 1 from by simp] at this
    exact this.alloc _
  have A7 : At V (w.heap.size + 1 + 1) 35 #[.nilIface, .int .i32 0] := by
    rw [hV]
    have := At.new ((w.alloc (.cells #[.iface 312 (.pointer (some ⟨e0, 0, none⟩)), .int .i32 l] 35)).alloc (.cells #[.nilIface, .int .i32 0] 35)) 35 #[.nilIface, .int .i32 0]
    rwa [show ((w.alloc (.cells #[.iface 312 (.pointer (some ⟨e0, 0, none⟩)), .int .i32 l] 35)).alloc (.cells #[.nilIface, .int .i32 0] 35)).heap.size = w.heap.size + 1 + 1 from by simp] at this
  rw [← hV]
  have zV := hWV.size
  clear hV
  refine (asCall e0 l V).mono ?_
  rintro e w1 ⟨rfl, hb⟩
  have HW := H.out.below (hWV.trans (hb.mono zV))
  have HBW := Lib.hid (hWV.trans (hb.mono zV))
  have A3' := A3.below hb A3.lt
  have A6' := Lib.hid (A6.below hb A6.lt)
  have A7' := Lib.hid (A7.below hb A7.lt)
  have z1 := hb.size
  have l7 := A7.lt
  clear A3 A6 A7 hb hWV H
  have HH := Lib.hid HW
  obtain ⟨⟨l0, AC⟩, AI, AA⟩ := HW
  have a0 : w1.cell? ⟨e0, 0, none⟩ = some (.iface 292 (.pointer (some ⟨i, 0, none⟩))) := by rw [AC.cell]; rfl
  have a1 : w1.cell? ⟨e0, 1, none⟩ = some (.int .i32 l0) := by rw [AC.cell]; rfl
  have a2 : w1.cell? ⟨e0, 2, none⟩ = some (.slice (some ⟨ab, 0, none⟩) 2 2) := by rw [AC.cell]; rfl
  have c31 : w1.cell? ⟨w.heap.size, 1, none⟩ = some (.int .i32 l) := by rw [A3'.cell]; rfl
  have l3 := A3'.lt
  have l4 := AC.lt
  clear AC AI AA A3'
  go_wp2_with fail
  refine (isH r i l0 w1 HH.out.ident).mono ?_
  rintro e w2 ⟨rfl, hb2⟩
  have b2 := kept hb2 a2
  have z2 := hb2.size
  have B6 := A6'.out.below hb2 A6'.out.lt
  have B7 := A7'.out.below hb2 A7'.out.lt
  have BA := HH.out.args.below hb2 HH.out.args.lt
  have g0 : w2.cell? ⟨ab, 0, none⟩ = some (.iface T0 p0) := by rw [BA.cell]; rfl
  have g1 : w2.cell? ⟨ab, 1, none⟩ = some (.int .i32 x0) := by rw [BA.cell]; rfl
  have g2 : w2.cell? ⟨ab, 2, none⟩ = some (.iface T1 p1) := by rw [BA.cell]; rfl
  have g3 : w2.cell? ⟨ab, 3, none⟩ = some (.int .i32 x1) := by rw [BA.cell]; rfl
  have d0 : w2.cell? ⟨w.heap.size + 1, 0, none⟩ = some .nilIface := by rw [B6.cell]; rfl
  have d1 : w2.cell? ⟨w.heap.size + 1, 1, none⟩ = some (.int .i32 0) := by rw [B6.cell]; rfl
  have d2 : w2.cell? ⟨w.heap.size + 1 + 1, 0, none⟩ = some .nilIface := by rw [B7.cell]; rfl
  have d3 : w2.cell? ⟨w.heap.size + 1 + 1, 1, none⟩ = some (.int .i32 0) := by rw [B7.cell]; rfl
  have f0 := B6.frozen 0
  have f1 := B6.frozen 1
  have f2 := B7.frozen 0
  have f3 := B7.frozen 1
  have m6 := B6.lt
  have m7 := B7.lt
  have mab := BA.lt
  have me0 : e0 < w2.heap.size := by omega
  have n1 : ¬ ab = w.heap.size + 1 := by omega
  have n2 : ¬ ab = w.heap.size + 1 + 1 := by omega
  have n3 : ¬ e0 = w.heap.size + 1 := by omega
  have n4 : ¬ e0 = w.heap.size + 1 + 1 := by omega
  have HB2 := Lib.hid (HBW.out.trans (hb2.mono (by omega)))
  clear B6 B7 BA hb2 A6' A7' HBW HH a0 a1 a2 c31
  go_wp2_with fail
  go_region
  go_wp2_with fail
  refine bodyPost_ret (v := .tuple #[.agg #[.iface T0 p0, .int .i32 x0], .agg #[.iface T1 p1, .int .i32 x1], .bool true]) (by simp [results, Tryd.results57, go_sem, *]) rfl ⟨rfl, ?_⟩
  repeat (first | with_reducible exact HB2.out | (with_reducible refine Below.drew ?_) | (with_reducible refine Below.setCell ?_ (by simp; try omega) _))
end Go.Proofs.YtjlmaingeobgeaaDoor
