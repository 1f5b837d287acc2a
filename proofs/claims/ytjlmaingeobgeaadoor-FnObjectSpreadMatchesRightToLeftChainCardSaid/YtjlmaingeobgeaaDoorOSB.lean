/- Proved here: the contracts of recordUsage, importFromRuntime and callRuntime. Conditions as stated. -/
import Derived.Test.YtjlmaingeobgeaaDoorOSA
import Derived.WalkKit
import Derived.WalkSpells
import Derived.WalkLawsBesides
import Derived.Lib.Hide
import Derived.Lib.SliceRun
import Derived.Deep.RegionWith
import Derived.OwnWalk
import Derived.Laws.OwnMore
import Derived.BigRegion
import Derived.Deep.RegionHeld3
import Derived.Carry
import Derived.WideMake
import Derived.MapKept
namespace Go.Proofs.YtjlmaingeobgeaaDoor
open Go.RowKit
set_option linter.unusedSimpArgs false
set_option linter.unusedVariables false

def RUP (b s m : Nat) (W : World) (e : Ending) (w' : World) : Prop := e = .returned (.tuple #[]) ∧ PR w' b s m ∧ Fr s W w'
set_option maxRecDepth 100000 in
set_option maxHeartbeats 4000000 in
theorem recU0 (b s m : Nat) (W : World) (h : PR W b s m) : Calls Tryd.prog 94 #[.pointer (some ⟨b, 0, none⟩), .agg #[.int .u32 0, .int .u32 0]] W (RUP b s m W) := by
  have HP := Lib.hid h
  obtain ⟨⟨h106, h117, h350, h105, h32, hbs⟩, hmap, cs, u0, u1, hat, hsz, hu0, hu1⟩ := h
  have x4 : W.cell? ⟨s, 4, none⟩ = some (.int .u32 u0) := by rw [hat.cell]; exact hu0
  have fz4 := hat.frozen 4
  have lg := hat.lt
  have lb := World.block_lt_of_cell? _ _ h350
  have gb' : ¬ b = s := hbs
  have gb2 : ¬ s = b := fun e => hbs e.symm
  have END := Lib.hid (show ∀ v : Int, PR (W.setCell ⟨s, 4, none⟩ (.int .u32 v)) b s m ∧ Fr s W (W.setCell ⟨s, 4, none⟩ (.int .u32 v)) from fun v => ⟨HP.out.setS 4 v (by decide), (Fr.refl s W).setS _ _⟩)
  clear hat hu0 hu1 hmap h117 HP
  go_enter Tryd.func94, Tryd.ntmps94
  go_wp2_with fail
  go_region
  go_wp2_with fail
  go_end0
  obtain ⟨e1, e2⟩ := END.out _
  exact ⟨rfl, (e1.alloc _).drew, (e2.alloc _).drew⟩

set_option maxRecDepth 100000 in
set_option maxHeartbeats 4000000 in
theorem recU1 (b s m : Nat) (W : World) (h : PR W b s m) : Calls Tryd.prog 94 #[.pointer (some ⟨b, 0, none⟩), .agg #[.int .u32 0, .int .u32 1]] W (RUP b s m W) := by
  have HP := Lib.hid h
  obtain ⟨⟨h106, h117, h350, h105, h32, hbs⟩, hmap, cs, u0, u1, hat, hsz, hu0, hu1⟩ := h
  have x4 : W.cell? ⟨s, 14, none⟩ = some (.int .u32 u1) := by rw [hat.cell]; exact hu1
  have fz4 := hat.frozen 14
  have lg := hat.lt
  have lb := World.block_lt_of_cell? _ _ h350
  have gb' : ¬ b = s := hbs
  have gb2 : ¬ s = b := fun e => hbs e.symm
  have END := Lib.hid (show ∀ v : Int, PR (W.setCell ⟨s, 14, none⟩ (.int .u32 v)) b s m ∧ Fr s W (W.setCell ⟨s, 14, none⟩ (.int .u32 v)) from fun v => ⟨HP.out.setS 14 v (by decide), (Fr.refl s W).setS _ _⟩)
  clear hat hu0 hu1 hmap h117 HP
  go_enter Tryd.func94, Tryd.ntmps94
  go_wp2_with fail
  go_region
  go_wp2_with fail
  go_end0
  obtain ⟨e1, e2⟩ := END.out _
  exact ⟨rfl, (e1.alloc _).drew, (e2.alloc _).drew⟩

def IP0 (b s m : Nat) (l : Int) (W : World) (e : Ending) (w' : World) : Prop :=
  ∃ i, e = .returned (.agg #[.iface 292 (.pointer (some ⟨i, 0, none⟩)), .int .i32 l]) ∧ At w' i 294 #[.int .u32 0, .int .u32 0, .bool false, .bool false, .bool false] ∧ PR w' b s m ∧ Fr s W w' ∧ W.heap.size ≤ i
set_option maxRecDepth 100000 in
set_option maxHeartbeats 4000000 in
theorem imp0 (b s m : Nat) (l : Int) (W : World) (h : PR W b s m) : Calls Tryd.prog 87 #[.pointer (some ⟨b, 0, none⟩), .agg #[.int .i32 l], .string ⟨#[95, 95, 115, 112, 114, 101, 97, 100, 86, 97, 108, 117, 101, 115]⟩] W (IP0 b s m l W) := by
  have HP := Lib.hid h
  obtain ⟨⟨h106, h117, h350, h105, h32, hbs⟩, hmap, _⟩ := h
  have lb : b < W.heap.size := World.block_lt_of_cell? _ _ h350
  have lm : m < W.heap.size := (Array.getElem?_eq_some_iff.1 hmap).1
  have hlk : (Instr.lookup 170 (.map (some m)) (.string ⟨#[95, 95, 115, 112, 114, 101, 97, 100, 86, 97, 108, 117, 101, 115]⟩) true).run Tryd.prog ((W.alloc (.cells #[.int .i32 l] 33)).alloc (.cells #[.nilIface, .int .i32 0] 35)) = .ok (.tuple #[.agg #[.int .i32 0, .int .u32 0, .int .u32 0], .bool true]) ((W.alloc (.cells #[.int .i32 l] 33)).alloc (.cells #[.nilIface, .int .i32 0] 35)) := mlook (e := es4) (clock := 4) (i := 0) ⟨#[95, 95, 115, 112, 114, 101, 97, 100, 86, 97, 108, 117, 101, 115]⟩ (by rw [Below.heap_alloc _ _ m (by simp; omega), Below.heap_alloc _ _ m (by omega)]; exact hmap) (by kernel_rfl)
  have lb1 : b < W.heap.size + 1 := by omega
  clear hmap h106
  go_enter Tryd.func87, Tryd.ntmps87
  go_wp2_with fail
  obtain ⟨V, hV⟩ : ∃ V, V = ((W.alloc (.cells #[.int .i32 l] 33)).alloc (.cells #[.nilIface, .int .i32 0] 35)).alloc (.cells #[.int .i32 0, .int .u32 0, .int .u32 0] 238) := ⟨_, rfl⟩
  have hWV : Below W.heap.size W V := by rw [hV]; exact (((Below.refl _ _).alloc (Nat.le_refl _) _).alloc (by simp) _).alloc (by simp; omega) _
  have A4 : At V W.heap.size 33 #[.int .i32 l] := by rw [hV]; exact ((At.new W 33 _).alloc _).alloc _
  have A6 : At V (W.heap.size + 1) 35 #[.nilIface, .int .i32 0] := by
    rw [hV]
    have := At.new (W.alloc (.cells #[.int .i32 l] 33)) 35 #[.nilIface, .int .i32 0]
    rw [show (W.alloc (.cells #[.int .i32 l] 33)).heap.size = W.heap.size + 1 from by simp] at this
    exact this.alloc _
  have A7 : At V (W.heap.size + 1 + 1) 238 #[.int .i32 0, .int .u32 0, .int .u32 0] := by
    rw [hV]
    have := At.new ((W.alloc (.cells #[.int .i32 l] 33)).alloc (.cells #[.nilIface, .int .i32 0] 35)) 238 #[.int .i32 0, .int .u32 0, .int .u32 0]
    rwa [show ((W.alloc (.cells #[.int .i32 l] 33)).alloc (.cells #[.nilIface, .int .i32 0] 35)).heap.size = W.heap.size + 1 + 1 from by simp] at this
  rw [← hV]
  have HPV := HP.out.below hWV
  have ls := HP.out.lt.2.2
  have zV := hWV.size
  clear hV hlk
  refine (recU0 b s m V HPV).mono ?_
  rintro e V1 ⟨rfl, hp1, hq1⟩
  have zV1 := hq1.size
  have n0 : W.heap.size ≠ s := by omega
  have n1 : W.heap.size + 1 ≠ s := by omega
  have n2 : W.heap.size + 1 + 1 ≠ s := by omega
  have HA4 := A4.fr hq1 n0
  have HA6 := A6.fr hq1 n1
  have HA7 := A7.fr hq1 n2
  have c4 : V1.cell? ⟨W.heap.size, 0, none⟩ = some (.int .i32 l) := by rw [HA4.cell]; rfl
  have c60 : V1.cell? ⟨W.heap.size + 1, 0, none⟩ = some .nilIface := by rw [HA6.cell]; rfl
  have c61 : V1.cell? ⟨W.heap.size + 1, 1, none⟩ = some (.int .i32 0) := by rw [HA6.cell]; rfl
  have c71 : V1.cell? ⟨W.heap.size + 1 + 1, 1, none⟩ = some (.int .u32 0) := by rw [HA7.cell]; rfl
  have c72 : V1.cell? ⟨W.heap.size + 1 + 1, 2, none⟩ = some (.int .u32 0) := by rw [HA7.cell]; rfl
  have fz0 := HA6.frozen 0
  have fz1 := HA6.frozen 1
  have l4 := HA4.lt
  have l6 := HA6.lt
  have l7 := HA7.lt
  have END := Lib.hid (show PR V1 b s m ∧ Fr s W V1 from ⟨hp1, (Fr.of_below hWV).trans hq1⟩)
  have HH6 := Lib.hid HA6
  clear A4 A6 A7 HA4 HA6 HA7 hp1 hq1 hWV HPV HP
  go_wp2_with fail
  refine bodyPost_ret (v := .agg #[.iface 292 (.pointer (some ⟨V1.heap.size, 0, none⟩)), .int .i32 l]) (by simp [results, Tryd.results87, go_sem, *]) rfl ?_
  obtain ⟨e1, e2⟩ := END.out
  have lm' : m < W.heap.size := lm
  refine ⟨V1.heap.size, rfl, ?_, ?_, ?_, by omega⟩
  · have := At.new ((V1.setCell ⟨W.heap.size + 1, 0, none⟩ (.iface 292 (.pointer (some ⟨V1.heap.size, 0, none⟩)))).setCell ⟨W.heap.size + 1, 1, none⟩ (.int .i32 l)) 294 #[.int .u32 0, .int .u32 0, .bool false, .bool false, .bool false]
    simpa [World.setCell] using this
  · exact ((e1.set (by omega) (by omega) (by omega) 0 _).set (by omega) (by omega) (by omega) 1 _).alloc _
  · exact ((e2.set (by omega) 0 _).set (by omega) 1 _).alloc _

def IP1 (b s m : Nat) (l : Int) (W : World) (e : Ending) (w' : World) : Prop :=
  ∃ i, e = .returned (.agg #[.iface 292 (.pointer (some ⟨i, 0, none⟩)), .int .i32 l]) ∧ At w' i 294 #[.int .u32 0, .int .u32 1, .bool false, .bool false, .bool false] ∧ PR w' b s m ∧ Fr s W w' ∧ W.heap.size ≤ i
set_option maxRecDepth 100000 in
set_option maxHeartbeats 4000000 in
theorem imp1 (b s m : Nat) (l : Int) (W : World) (h : PR W b s m) : Calls Tryd.prog 87 #[.pointer (some ⟨b, 0, none⟩), .agg #[.int .i32 l], .string ⟨#[95, 95, 115, 112, 114, 101, 97, 100, 80, 114, 111, 112, 115]⟩] W (IP1 b s m l W) := by
  have HP := Lib.hid h
  obtain ⟨⟨h106, h117, h350, h105, h32, hbs⟩, hmap, _⟩ := h
  have lb : b < W.heap.size := World.block_lt_of_cell? _ _ h350
  have lm : m < W.heap.size := (Array.getElem?_eq_some_iff.1 hmap).1
  have hlk : (Instr.lookup 170 (.map (some m)) (.string ⟨#[95, 95, 115, 112, 114, 101, 97, 100, 80, 114, 111, 112, 115]⟩) true).run Tryd.prog ((W.alloc (.cells #[.int .i32 l] 33)).alloc (.cells #[.nilIface, .int .i32 0] 35)) = .ok (.tuple #[.agg #[.int .i32 0, .int .u32 0, .int .u32 1], .bool true]) ((W.alloc (.cells #[.int .i32 l] 33)).alloc (.cells #[.nilIface, .int .i32 0] 35)) := mlook (e := es4) (clock := 4) (i := 1) ⟨#[95, 95, 115, 112, 114, 101, 97, 100, 80, 114, 111, 112, 115]⟩ (by rw [Below.heap_alloc _ _ m (by simp; omega), Below.heap_alloc _ _ m (by omega)]; exact hmap) (by kernel_rfl)
  have lb1 : b < W.heap.size + 1 := by omega
  clear hmap h106
  go_enter Tryd.func87, Tryd.ntmps87
  go_wp2_with fail
  obtain ⟨V, hV⟩ : ∃ V, V = ((W.alloc (.cells #[.int .i32 l] 33)).alloc (.cells #[.nilIface, .int .i32 0] 35)).alloc (.cells #[.int .i32 0, .int .u32 0, .int .u32 1] 238) := ⟨_, rfl⟩
  have hWV : Below W.heap.size W V := by rw [hV]; exact (((Below.refl _ _).alloc (Nat.le_refl _) _).alloc (by simp) _).alloc (by simp; omega) _
  have A4 : At V W.heap.size 33 #[.int .i32 l] := by rw [hV]; exact ((At.new W 33 _).alloc _).alloc _
  have A6 : At V (W.heap.size + 1) 35 #[.nilIface, .int .i32 0] := by
    rw [hV]
    have := At.new (W.alloc (.cells #[.int .i32 l] 33)) 35 #[.nilIface, .int .i32 0]
    rw [show (W.alloc (.cells #[.int .i32 l] 33)).heap.size = W.heap.size + 1 from by simp] at this
    exact this.alloc _
  have A7 : At V (W.heap.size + 1 + 1) 238 #[.int .i32 0, .int .u32 0, .int .u32 1] := by
    rw [hV]
    have := At.new ((W.alloc (.cells #[.int .i32 l] 33)).alloc (.cells #[.nilIface, .int .i32 0] 35)) 238 #[.int .i32 0, .int .u32 0, .int .u32 1]
    rwa [show ((W.alloc (.cells #[.int .i32 l] 33)).alloc (.cells #[.nilIface, .int .i32 0] 35)).heap.size = W.heap.size + 1 + 1 from by simp] at this
  rw [← hV]
  have HPV := HP.out.below hWV
  have ls := HP.out.lt.2.2
  have zV := hWV.size
  clear hV hlk
  refine (recU1 b s m V HPV).mono ?_
  rintro e V1 ⟨rfl, hp1, hq1⟩
  have zV1 := hq1.size
  have n0 : W.heap.size ≠ s := by omega
  have n1 : W.heap.size + 1 ≠ s := by omega
  have n2 : W.heap.size + 1 + 1 ≠ s := by omega
  have HA4 := A4.fr hq1 n0
  have HA6 := A6.fr hq1 n1
  have HA7 := A7.fr hq1 n2
  have c4 : V1.cell? ⟨W.heap.size, 0, none⟩ = some (.int .i32 l) := by rw [HA4.cell]; rfl
  have c60 : V1.cell? ⟨W.heap.size + 1, 0, none⟩ = some .nilIface := by rw [HA6.cell]; rfl
  have c61 : V1.cell? ⟨W.heap.size + 1, 1, none⟩ = some (.int .i32 0) := by rw [HA6.cell]; rfl
  have c71 : V1.cell? ⟨W.heap.size + 1 + 1, 1, none⟩ = some (.int .u32 0) := by rw [HA7.cell]; rfl
  have c72 : V1.cell? ⟨W.heap.size + 1 + 1, 2, none⟩ = some (.int .u32 1) := by rw [HA7.cell]; rfl
  have fz0 := HA6.frozen 0
  have fz1 := HA6.frozen 1
  have l4 := HA4.lt
  have l6 := HA6.lt
  have l7 := HA7.lt
  have END := Lib.hid (show PR V1 b s m ∧ Fr s W V1 from ⟨hp1, (Fr.of_below hWV).trans hq1⟩)
  have HH6 := Lib.hid HA6
  clear A4 A6 A7 HA4 HA6 HA7 hp1 hq1 hWV HPV HP
  go_wp2_with fail
  refine bodyPost_ret (v := .agg #[.iface 292 (.pointer (some ⟨V1.heap.size, 0, none⟩)), .int .i32 l]) (by simp [results, Tryd.results87, go_sem, *]) rfl ?_
  obtain ⟨e1, e2⟩ := END.out
  have lm' : m < W.heap.size := lm
  refine ⟨V1.heap.size, rfl, ?_, ?_, ?_, by omega⟩
  · have := At.new ((V1.setCell ⟨W.heap.size + 1, 0, none⟩ (.iface 292 (.pointer (some ⟨V1.heap.size, 0, none⟩)))).setCell ⟨W.heap.size + 1, 1, none⟩ (.int .i32 l)) 294 #[.int .u32 0, .int .u32 1, .bool false, .bool false, .bool false]
    simpa [World.setCell] using this
  · exact ((e1.set (by omega) (by omega) (by omega) 0 _).set (by omega) (by omega) (by omega) 1 _).alloc _
  · exact ((e2.set (by omega) 0 _).set (by omega) 1 _).alloc _

def CP0 (b s m : Nat) (l : Int) (ar : Value) (W : World) (e : Ending) (w' : World) : Prop :=
  ∃ e0 i, e = .returned (.agg #[.iface 312 (.pointer (some ⟨e0, 0, none⟩)), .int .i32 l]) ∧ At w' e0 317 #[.iface 292 (.pointer (some ⟨i, 0, none⟩)), .int .i32 l, ar, .int .i32 0, .int .u8 0, .int .u8 0, .bool false, .bool false] ∧ At w' i 294 #[.int .u32 0, .int .u32 0, .bool false, .bool false, .bool false] ∧ PR w' b s m ∧ Fr s W w' ∧ W.heap.size ≤ e0 ∧ W.heap.size ≤ i
set_option maxRecDepth 100000 in
set_option maxHeartbeats 8000000 in
theorem callR0 (b s m : Nat) (l : Int) (ar : Addr) (W : World) (h : PR W b s m) :
    Calls Tryd.prog 79 #[.pointer (some ⟨b, 0, none⟩), .agg #[.int .i32 l], .string ⟨#[95, 95, 115, 112, 114, 101, 97, 100, 86, 97, 108, 117, 101, 115]⟩, .slice (some ar) 2 2] W (CP0 b s m l (.slice (some ar) 2 2) W) := by
  have HI := Lib.hid h
  have lt3 := h.lt
  obtain ⟨lb, lm, ls⟩ := lt3
  clear h
  go_enter Tryd.func79, Tryd.ntmps79
  go_wp2_with fail
  obtain ⟨V, hV⟩ : ∃ V, V = (W.alloc (.cells #[.int .i32 l] 33)).alloc (.cells #[.nilIface, .int .i32 0] 35) := ⟨_, rfl⟩
  have hWV : Below W.heap.size W V := by rw [hV]; exact ((Below.refl _ _).alloc (Nat.le_refl _) _).alloc (by simp) _
  have A5 : At V W.heap.size 33 #[.int .i32 l] := by rw [hV]; exact (At.new W 33 _).alloc _
  have A8 : At V (W.heap.size + 1) 35 #[.nilIface, .int .i32 0] := by
    rw [hV]
    have := At.new (W.alloc (.cells #[.int .i32 l] 33)) 35 #[.nilIface, .int .i32 0]
    rwa [show (W.alloc (.cells #[.int .i32 l] 33)).heap.size = W.heap.size + 1 from by simp] at this
  rw [← hV]
  have HV := Lib.hid (show ∀ W', Below V.heap.size V W' → Calls Tryd.prog 87 #[.pointer (some ⟨b, 0, none⟩), .agg #[.int .i32 l], .string ⟨#[95, 95, 115, 112, 114, 101, 97, 100, 86, 97, 108, 117, 101, 115]⟩] W' (IP0 b s m l W') from fun W' hW' => imp0 b s m l W' ((HI.out.below hWV).below hW'))
  have HBV := Lib.hid hWV
  have zV := hWV.size
  have x5 : V.cell? ⟨W.heap.size, 0, none⟩ = some (.int .i32 l) := by rw [A5.cell]; rfl
  have l5 := A5.lt
  have l8 := A8.lt
  have n5 : W.heap.size ≠ s := by omega
  have n8 : W.heap.size + 1 ≠ s := by omega
  have H5 := Lib.hid A5
  have H8 := Lib.hid A8
  clear hV hWV HI A5 A8
  go_region_held3 (fun w' => w'.cell? ⟨W.heap.size, 0, none⟩ = some (.int .i32 l)) (repeat' (first | with_reducible assumption | apply kAlloc | apply kDrew | (refine kSet ?_ (by omega)))) (first
    | (go_at_call 87; (with_reducible refine Calls.mono (HV.out _ ((Below.refl _ _).drew)) ?_); rintro e Y ⟨i, rfl, hAi, hp1, hkq, hsi⟩; have hkV : Fr s V Y := (hkq.undrew); have zY := hkV.size; simp at hsi; have A5 : At Y W.heap.size 33 #[.int .i32 l] := (H5.out.fr hkV n5); have A8 : At Y (W.heap.size + 1) 35 #[.nilIface, .int .i32 0] := (H8.out.fr hkV n8); have y5 : Y.cell? ⟨W.heap.size, 0, none⟩ = some (.int .i32 l) := (by rw [A5.cell]; rfl); have y80 : Y.cell? ⟨W.heap.size + 1, 0, none⟩ = some .nilIface := (by rw [A8.cell]; rfl); have y81 : Y.cell? ⟨W.heap.size + 1, 1, none⟩ = some (.int .i32 0) := (by rw [A8.cell]; rfl); have f80 := A8.frozen 0; have f81 := A8.frozen 1; have m5 := A5.lt; have m8 := A8.lt)
    | fail)
  all_goals
    obtain ⟨Z, hZ⟩ : ∃ Z, Z = (Y.setCell ⟨W.heap.size + 1, 0, none⟩ (.iface 312 (.pointer (some ⟨Y.heap.size, 0, none⟩)))).setCell ⟨W.heap.size + 1, 1, none⟩ (.int .i32 l) := ⟨_, rfl⟩
    have KZ : Fr s W Z := by rw [hZ]; exact (((Fr.of_below HBV.out).trans hkV).set (by omega) 0 _).set (by omega) 1 _
    have PZ : PR Z b s m := by rw [hZ]; exact (hp1.set (by omega) (by omega) (by omega) 0 _).set (by omega) (by omega) (by omega) 1 _
    have AZ : At Z i 294 #[.int .u32 0, .int .u32 0, .bool false, .bool false, .bool false] := by
      rw [hZ]
      have ne : i ≠ W.heap.size + 1 := atNe hAi A8 (by decide)
      exact (hAi.far (by simpa using ne) _).far (by simpa using ne) _
    have zZ : Z.heap.size = Y.heap.size := by rw [hZ]; simp [World.setCell]
    have AE : At (Z.alloc (.cells #[.iface 292 (.pointer (some ⟨i, 0, none⟩)), .int .i32 l, .slice (some ar) 2 2, .int .i32 0, .int .u8 0, .int .u8 0, .bool false, .bool false] 317)) Y.heap.size 317 #[.iface 292 (.pointer (some ⟨i, 0, none⟩)), .int .i32 l, .slice (some ar) 2 2, .int .i32 0, .int .u8 0, .int .u8 0, .bool false, .bool false] := by
      have := At.new Z 317 #[.iface 292 (.pointer (some ⟨i, 0, none⟩)), .int .i32 l, .slice (some ar) 2 2, .int .i32 0, .int .u8 0, .int .u8 0, .bool false, .bool false]
      rwa [zZ] at this
    have END := Lib.hid (show CP0 b s m l (.slice (some ar) 2 2) W (.returned (.agg #[.iface 312 (.pointer (some ⟨Y.heap.size, 0, none⟩)), .int .i32 l])) (Z.alloc (.cells #[.iface 292 (.pointer (some ⟨i, 0, none⟩)), .int .i32 l, .slice (some ar) 2 2, .int .i32 0, .int .u8 0, .int .u8 0, .bool false, .bool false] 317)) from ⟨Y.heap.size, i, rfl, AE, AZ.alloc _, PZ.alloc _, KZ.alloc _, by omega, by omega⟩)
    rw [hZ] at END
    clear KZ PZ AZ AE zZ hZ
    go_wp2_with fail
    exact bodyPost_ret (v := .agg #[.iface 312 (.pointer (some ⟨Y.heap.size, 0, none⟩)), .int .i32 l]) (by simp [results, Tryd.results79, go_sem, *]) rfl END.out

def CP1 (b s m : Nat) (l : Int) (ar : Value) (W : World) (e : Ending) (w' : World) : Prop :=
  ∃ e0 i, e = .returned (.agg #[.iface 312 (.pointer (some ⟨e0, 0, none⟩)), .int .i32 l]) ∧ At w' e0 317 #[.iface 292 (.pointer (some ⟨i, 0, none⟩)), .int .i32 l, ar, .int .i32 0, .int .u8 0, .int .u8 0, .bool false, .bool false] ∧ At w' i 294 #[.int .u32 0, .int .u32 1, .bool false, .bool false, .bool false] ∧ PR w' b s m ∧ Fr s W w' ∧ W.heap.size ≤ e0 ∧ W.heap.size ≤ i
set_option maxRecDepth 100000 in
set_option maxHeartbeats 8000000 in
theorem callR1 (b s m : Nat) (l : Int) (ar : Addr) (W : World) (h : PR W b s m) :
    Calls Tryd.prog 79 #[.pointer (some ⟨b, 0, none⟩), .agg #[.int .i32 l], .string ⟨#[95, 95, 115, 112, 114, 101, 97, 100, 80, 114, 111, 112, 115]⟩, .slice (some ar) 2 2] W (CP1 b s m l (.slice (some ar) 2 2) W) := by
  have HI := Lib.hid h
  have lt3 := h.lt
  obtain ⟨lb, lm, ls⟩ := lt3
  clear h
  go_enter Tryd.func79, Tryd.ntmps79
  go_wp2_with fail
  obtain ⟨V, hV⟩ : ∃ V, V = (W.alloc (.cells #[.int .i32 l] 33)).alloc (.cells #[.nilIface, .int .i32 0] 35) := ⟨_, rfl⟩
  have hWV : Below W.heap.size W V := by rw [hV]; exact ((Below.refl _ _).alloc (Nat.le_refl _) _).alloc (by simp) _
  have A5 : At V W.heap.size 33 #[.int .i32 l] := by rw [hV]; exact (At.new W 33 _).alloc _
  have A8 : At V (W.heap.size + 1) 35 #[.nilIface, .int .i32 0] := by
    rw [hV]
    have := At.new (W.alloc (.cells #[.int .i32 l] 33)) 35 #[.nilIface, .int .i32 0]
    rwa [show (W.alloc (.cells #[.int .i32 l] 33)).heap.size = W.heap.size + 1 from by simp] at this
  rw [← hV]
  have HV := Lib.hid (show ∀ W', Below V.heap.size V W' → Calls Tryd.prog 87 #[.pointer (some ⟨b, 0, none⟩), .agg #[.int .i32 l], .string ⟨#[95, 95, 115, 112, 114, 101, 97, 100, 80, 114, 111, 112, 115]⟩] W' (IP1 b s m l W') from fun W' hW' => imp1 b s m l W' ((HI.out.below hWV).below hW'))
  have HBV := Lib.hid hWV
  have zV := hWV.size
  have x5 : V.cell? ⟨W.heap.size, 0, none⟩ = some (.int .i32 l) := by rw [A5.cell]; rfl
  have l5 := A5.lt
  have l8 := A8.lt
  have n5 : W.heap.size ≠ s := by omega
  have n8 : W.heap.size + 1 ≠ s := by omega
  have H5 := Lib.hid A5
  have H8 := Lib.hid A8
  clear hV hWV HI A5 A8
  go_region_held3 (fun w' => w'.cell? ⟨W.heap.size, 0, none⟩ = some (.int .i32 l)) (repeat' (first | with_reducible assumption | apply kAlloc | apply kDrew | (refine kSet ?_ (by omega)))) (first
    | (go_at_call 87; (with_reducible refine Calls.mono (HV.out _ ((Below.refl _ _).drew)) ?_); rintro e Y ⟨i, rfl, hAi, hp1, hkq, hsi⟩; have hkV : Fr s V Y := (hkq.undrew); have zY := hkV.size; simp at hsi; have A5 : At Y W.heap.size 33 #[.int .i32 l] := (H5.out.fr hkV n5); have A8 : At Y (W.heap.size + 1) 35 #[.nilIface, .int .i32 0] := (H8.out.fr hkV n8); have y5 : Y.cell? ⟨W.heap.size, 0, none⟩ = some (.int .i32 l) := (by rw [A5.cell]; rfl); have y80 : Y.cell? ⟨W.heap.size + 1, 0, none⟩ = some .nilIface := (by rw [A8.cell]; rfl); have y81 : Y.cell? ⟨W.heap.size + 1, 1, none⟩ = some (.int .i32 0) := (by rw [A8.cell]; rfl); have f80 := A8.frozen 0; have f81 := A8.frozen 1; have m5 := A5.lt; have m8 := A8.lt)
    | fail)
  all_goals
    obtain ⟨Z, hZ⟩ : ∃ Z, Z = (Y.setCell ⟨W.heap.size + 1, 0, none⟩ (.iface 312 (.pointer (some ⟨Y.heap.size, 0, none⟩)))).setCell ⟨W.heap.size + 1, 1, none⟩ (.int .i32 l) := ⟨_, rfl⟩
    have KZ : Fr s W Z := by rw [hZ]; exact (((Fr.of_below HBV.out).trans hkV).set (by omega) 0 _).set (by omega) 1 _
    have PZ : PR Z b s m := by rw [hZ]; exact (hp1.set (by omega) (by omega) (by omega) 0 _).set (by omega) (by omega) (by omega) 1 _
    have AZ : At Z i 294 #[.int .u32 0, .int .u32 1, .bool false, .bool false, .bool false] := by
      rw [hZ]
      have ne : i ≠ W.heap.size + 1 := atNe hAi A8 (by decide)
      exact (hAi.far (by simpa using ne) _).far (by simpa using ne) _
    have zZ : Z.heap.size = Y.heap.size := by rw [hZ]; simp [World.setCell]
    have AE : At (Z.alloc (.cells #[.iface 292 (.pointer (some ⟨i, 0, none⟩)), .int .i32 l, .slice (some ar) 2 2, .int .i32 0, .int .u8 0, .int .u8 0, .bool false, .bool false] 317)) Y.heap.size 317 #[.iface 292 (.pointer (some ⟨i, 0, none⟩)), .int .i32 l, .slice (some ar) 2 2, .int .i32 0, .int .u8 0, .int .u8 0, .bool false, .bool false] := by
      have := At.new Z 317 #[.iface 292 (.pointer (some ⟨i, 0, none⟩)), .int .i32 l, .slice (some ar) 2 2, .int .i32 0, .int .u8 0, .int .u8 0, .bool false, .bool false]
      rwa [zZ] at this
    have END := Lib.hid (show CP1 b s m l (.slice (some ar) 2 2) W (.returned (.agg #[.iface 312 (.pointer (some ⟨Y.heap.size, 0, none⟩)), .int .i32 l])) (Z.alloc (.cells #[.iface 292 (.pointer (some ⟨i, 0, none⟩)), .int .i32 l, .slice (some ar) 2 2, .int .i32 0, .int .u8 0, .int .u8 0, .bool false, .bool false] 317)) from ⟨Y.heap.size, i, rfl, AE, AZ.alloc _, PZ.alloc _, KZ.alloc _, by omega, by omega⟩)
    rw [hZ] at END
    clear KZ PZ AZ AE zZ hZ
    go_wp2_with fail
    exact bodyPost_ret (v := .agg #[.iface 312 (.pointer (some ⟨Y.heap.size, 0, none⟩)), .int .i32 l]) (by simp [results, Tryd.results79, go_sem, *]) rfl END.out
end Go.Proofs.YtjlmaingeobgeaaDoor
