/- Proved here: the makers of statements. Conditions as stated. -/
import Derived.Test.YthgcchgpplblbaaDoorUXA
import Derived.WalkKit
import Derived.WalkSpells
import Derived.WalkLawsBesides
import Derived.Lib.Hide
import Derived.Lib.SliceRun
import Derived.Deep.RegionWith
import Derived.OwnWalk
import Derived.Laws.OwnMore
import Derived.BigRegion
import Derived.Carry
import Derived.IntWalk
namespace Go.Proofs.YthgcchgpplblbaaDoor
open Go.RowKit
set_option linter.unusedSimpArgs false
set_option linter.unusedVariables false

namespace UX
def STP (kd b v : Int) (i : Int) (w : World) (e : Ending) (w' : World) : Prop := ∃ T q, e = .returned (.agg #[.iface T (.pointer q), .int .i32 i]) ∧ STD w' kd b v (.iface T (.pointer q)) ∧ Below w.heap.size w w'
set_option maxRecDepth 100000 in
theorem mkEmpty (i : Int) (w : World) : Calls Tryd.prog 15 #[.int .i32 i] w fun e w' => ∃ q, e = .returned (.agg #[.iface 189 (.pointer q), .int .i32 i]) ∧ Below w.heap.size w w' := by
  go_enter Tryd.func15, Tryd.ntmps15
  go_wp2_with fail
  exact bodyPost_ret (v := .agg #[.iface 189 (.pointer (some ⟨w.heap.size + 1, 0, none⟩)), .int .i32 i]) (by simp [results, Tryd.results15, go_sem, *]) rfl ⟨_, rfl, (by repeat (first | with_reducible exact Below.refl _ _ | (with_reducible refine Below.drew ?_) | (with_reducible refine Below.alloc ?_ (by simp; try omega) _) | (with_reducible refine Below.setCell ?_ (by simp; try omega) _)))⟩
set_option maxRecDepth 100000 in
theorem mkLS (i : Int) (q : Option Addr) (w : World) : Calls Tryd.prog 18 #[.int .i32 i, .pointer q] w fun e w' => e = .returned (.agg #[.iface 181 (.pointer q), .int .i32 i]) ∧ Below w.heap.size w w' := by
  go_enter Tryd.func18, Tryd.ntmps18
  go_wp2_with fail
  exact bodyPost_ret (v := .agg #[.iface 181 (.pointer q), .int .i32 i]) (by simp [results, Tryd.results18, go_sem, *]) rfl ⟨rfl, (by repeat (first | with_reducible exact Below.refl _ _ | (with_reducible refine Below.drew ?_) | (with_reducible refine Below.alloc ?_ (by simp; try omega) _) | (with_reducible refine Below.setCell ?_ (by simp; try omega) _)))⟩
def LP (ie ex : Bool) (b : Int) (val : Value) (w : World) (e : Ending) (w' : World) : Prop := ∃ sl, e = .returned (.pointer (some ⟨sl, 0, none⟩)) ∧ LOC w' sl ie ex b val ∧ Below w.heap.size w w'
set_option maxRecDepth 100000 in
theorem mkLocal (ie ex : Bool) (lo b v : Int) (val : Value) (k d : Nat) (w : World) (h : VAL w v val k d) : Calls Tryd.prog 16 #[.bool ie, .bool ex, .int .i32 lo, .int .u32 b, .agg #[val, .int .i32 0]] w (LP ie ex b val w) := by
  rcases h.form with rfl | ⟨t2, b2, rfl⟩
  all_goals
    clear h
    go_enter Tryd.func16, Tryd.ntmps16
    go_wp2_with fail
    go_ret
    refine ⟨_, rfl, ⟨w.heap.size + 1 + 1, w.heap.size + 1, lo, ?_, ?_, ?_⟩, (by repeat (first | with_reducible exact Below.refl _ _ | (with_reducible refine Below.drew ?_) | (with_reducible refine Below.alloc ?_ (by simp; try omega) _) | (with_reducible refine Below.setCell ?_ (by simp; try omega) _)))⟩
    · exact at4 _ _ _ _ _ _
    · exact (at3 _ _ _ _ _).alloc _
    · exact ((at2 _ _ _ _).alloc _).alloc _

set_option maxRecDepth 100000 in
theorem zst0 (i : Nat) (b v : Int) (dp : Nat) (w : World) (hi : i ≤ 70000) : Calls Tryd.prog 12 #[.int .i64 0, .int .i64 i, .int .u32 b, .int .u32 v, .int .i64 dp] w (STP 0 b v i w) := by
  have l1 : Value.int .i32 (IntKind.i32.wrap (i : Int)) = .int .i32 (i : Int) := by rw [IntWalk.i32_in _ (by omega)]
  clear hi
  go_enter Tryd.func12, Tryd.ntmps12
  go_wp2_with fail
  refine (mkEmpty _ _).mono ?_
  rintro e w1 ⟨q, rfl, hb⟩
  have A0 := (At.new w 42 #[.nilIface, .int .i32 0]).below hb (by simp)
  have c0 : w1.cell? ⟨w.heap.size, 0, none⟩ = some .nilIface := by rw [A0.cell]; rfl
  have c1 : w1.cell? ⟨w.heap.size, 1, none⟩ = some (.int .i32 0) := by rw [A0.cell]; rfl
  have f0 := A0.frozen 0
  have f1 := A0.frozen 1
  have l0 := A0.lt
  have HB := Lib.hid (show Below w.heap.size w w1 from ((Below.refl _ w).alloc (Nat.le_refl _) _).trans (hb.mono (by simp)))
  clear A0 hb
  go_wp2_with fail
  exact bodyPost_ret (v := .agg #[.iface 189 (.pointer q), .int .i32 i]) (by simp [results, Tryd.results12, go_sem, *]) rfl ⟨_, _, rfl, .inl ⟨rfl, _, rfl⟩, (HB.out.setCell (by simp) _).setCell (by simp) _⟩

set_option maxRecDepth 100000 in
theorem zst1 (i : Nat) (b v : Int) (dp : Nat) (w : World) (hi : i ≤ 70000) (hdp : dp ≤ 2) : Calls Tryd.prog 12 #[.int .i64 1, .int .i64 i, .int .u32 b, .int .u32 v, .int .i64 dp] w (STP 1 b v i w) := by
  have l1 : Value.int .i32 (IntKind.i32.wrap (i : Int)) = .int .i32 (i : Int) := by rw [IntWalk.i32_in _ (by omega)]
  have HZV := Lib.hid (fun W => zval 1 v dp W hdp (by decide))
  clear hi hdp
  go_enter Tryd.func12, Tryd.ntmps12
  go_wp2_with fail
  refine (HZV.out _).mono ?_
  rintro e w1 ⟨val, rfl, hv, hb⟩
  have A0 := (At.new w 42 #[.nilIface, .int .i32 0]).below hb (by simp)
  have HA := Lib.hid A0
  have HB := Lib.hid (show Below w.heap.size w w1 from ((Below.refl _ w).alloc (Nat.le_refl _) _).trans (hb.mono (by simp)))
  have HV := Lib.hid hv
  have HML := Lib.hid (fun ie ex lo => mkLocal ie ex lo b v val _ _ w1 hv)
  clear A0 hb hv HZV
  go_wp2_with fail
  refine (HML.out _ _ _).mono ?_
  rintro e w2 ⟨sl, rfl, hloc, hb⟩
  have HA2 := Lib.hid (HA.out.below hb HA.out.lt)
  have HB2 := Lib.hid (HB.out.trans (hb.mono HB.out.size))
  have HV2 := Lib.hid (HV.out.keep (KX.below hb))
  have HLO := Lib.hid hloc
  clear hb hloc HML HA HB HV
  go_wp2_with fail
  refine (mkLS _ _ _).mono ?_
  rintro e w3 ⟨rfl, hb⟩
  have A0 := HA2.out.below hb HA2.out.lt
  have c0 : w3.cell? ⟨w.heap.size, 0, none⟩ = some .nilIface := by rw [A0.cell]; rfl
  have c1 : w3.cell? ⟨w.heap.size, 1, none⟩ = some (.int .i32 0) := by rw [A0.cell]; rfl
  have f0 := A0.frozen 0
  have f1 := A0.frozen 1
  have l0 := A0.lt
  have HA3 := Lib.hid A0
  have HB3 := Lib.hid (HB2.out.trans (hb.mono HB2.out.size))
  have HV3 := Lib.hid (HV2.out.keep (KX.below hb))
  have HLO3 := Lib.hid (HLO.out.keep (KX.below hb))
  clear A0 hb HA2 HB2 HV2 HLO
  go_wp2_with fail
  have hkx : ∀ x y : Value, KX w3 ((w3.setCell ⟨w.heap.size, 0, none⟩ x).setCell ⟨w.heap.size, 1, none⟩ y) := fun x y b t cs h _ h2 _ => (h.far (by simpa using atNe h HA3.out h2) _).far (by simpa using atNe h HA3.out h2) _
  exact bodyPost_ret (v := .agg #[.iface 181 (.pointer (some ⟨sl, 0, none⟩)), .int .i32 i]) (by simp [results, Tryd.results12, go_sem, *]) rfl ⟨_, _, rfl, .inr ⟨by decide, sl, val, _, rfl, HLO3.out.keep (hkx _ _), HV3.out.keep (hkx _ _)⟩, (HB3.out.setCell (by simp) _).setCell (by simp) _⟩

set_option maxRecDepth 100000 in
theorem zst2 (i : Nat) (b v : Int) (dp : Nat) (w : World) (hi : i ≤ 70000) (hdp : dp ≤ 2) : Calls Tryd.prog 12 #[.int .i64 2, .int .i64 i, .int .u32 b, .int .u32 v, .int .i64 dp] w (STP 2 b v i w) := by
  have l1 : Value.int .i32 (IntKind.i32.wrap (i : Int)) = .int .i32 (i : Int) := by rw [IntWalk.i32_in _ (by omega)]
  have HZV := Lib.hid (fun W => zval 2 v dp W hdp (by decide))
  clear hi hdp
  go_enter Tryd.func12, Tryd.ntmps12
  go_wp2_with fail
  refine (HZV.out _).mono ?_
  rintro e w1 ⟨val, rfl, hv, hb⟩
  have A0 := (At.new w 42 #[.nilIface, .int .i32 0]).below hb (by simp)
  have HA := Lib.hid A0
  have HB := Lib.hid (show Below w.heap.size w w1 from ((Below.refl _ w).alloc (Nat.le_refl _) _).trans (hb.mono (by simp)))
  have HV := Lib.hid hv
  have HML := Lib.hid (fun ie ex lo => mkLocal ie ex lo b v val _ _ w1 hv)
  clear A0 hb hv HZV
  go_wp2_with fail
  refine (HML.out _ _ _).mono ?_
  rintro e w2 ⟨sl, rfl, hloc, hb⟩
  have HA2 := Lib.hid (HA.out.below hb HA.out.lt)
  have HB2 := Lib.hid (HB.out.trans (hb.mono HB.out.size))
  have HV2 := Lib.hid (HV.out.keep (KX.below hb))
  have HLO := Lib.hid hloc
  clear hb hloc HML HA HB HV
  go_wp2_with fail
  refine (mkLS _ _ _).mono ?_
  rintro e w3 ⟨rfl, hb⟩
  have A0 := HA2.out.below hb HA2.out.lt
  have c0 : w3.cell? ⟨w.heap.size, 0, none⟩ = some .nilIface := by rw [A0.cell]; rfl
  have c1 : w3.cell? ⟨w.heap.size, 1, none⟩ = some (.int .i32 0) := by rw [A0.cell]; rfl
  have f0 := A0.frozen 0
  have f1 := A0.frozen 1
  have l0 := A0.lt
  have HA3 := Lib.hid A0
  have HB3 := Lib.hid (HB2.out.trans (hb.mono HB2.out.size))
  have HV3 := Lib.hid (HV2.out.keep (KX.below hb))
  have HLO3 := Lib.hid (HLO.out.keep (KX.below hb))
  clear A0 hb HA2 HB2 HV2 HLO
  go_wp2_with fail
  have hkx : ∀ x y : Value, KX w3 ((w3.setCell ⟨w.heap.size, 0, none⟩ x).setCell ⟨w.heap.size, 1, none⟩ y) := fun x y b t cs h _ h2 _ => (h.far (by simpa using atNe h HA3.out h2) _).far (by simpa using atNe h HA3.out h2) _
  exact bodyPost_ret (v := .agg #[.iface 181 (.pointer (some ⟨sl, 0, none⟩)), .int .i32 i]) (by simp [results, Tryd.results12, go_sem, *]) rfl ⟨_, _, rfl, .inr ⟨by decide, sl, val, _, rfl, HLO3.out.keep (hkx _ _), HV3.out.keep (hkx _ _)⟩, (HB3.out.setCell (by simp) _).setCell (by simp) _⟩

set_option maxRecDepth 100000 in
theorem zst3 (i : Nat) (b v : Int) (dp : Nat) (w : World) (hi : i ≤ 70000) (hdp : dp ≤ 2) : Calls Tryd.prog 12 #[.int .i64 3, .int .i64 i, .int .u32 b, .int .u32 v, .int .i64 dp] w (STP 3 b v i w) := by
  have l1 : Value.int .i32 (IntKind.i32.wrap (i : Int)) = .int .i32 (i : Int) := by rw [IntWalk.i32_in _ (by omega)]
  have HZV := Lib.hid (fun W => zval 3 v dp W hdp (by decide))
  clear hi hdp
  go_enter Tryd.func12, Tryd.ntmps12
  go_wp2_with fail
  refine (HZV.out _).mono ?_
  rintro e w1 ⟨val, rfl, hv, hb⟩
  have A0 := (At.new w 42 #[.nilIface, .int .i32 0]).below hb (by simp)
  have HA := Lib.hid A0
  have HB := Lib.hid (show Below w.heap.size w w1 from ((Below.refl _ w).alloc (Nat.le_refl _) _).trans (hb.mono (by simp)))
  have HV := Lib.hid hv
  have HML := Lib.hid (fun ie ex lo => mkLocal ie ex lo b v val _ _ w1 hv)
  clear A0 hb hv HZV
  go_wp2_with fail
  refine (HML.out _ _ _).mono ?_
  rintro e w2 ⟨sl, rfl, hloc, hb⟩
  have HA2 := Lib.hid (HA.out.below hb HA.out.lt)
  have HB2 := Lib.hid (HB.out.trans (hb.mono HB.out.size))
  have HV2 := Lib.hid (HV.out.keep (KX.below hb))
  have HLO := Lib.hid hloc
  clear hb hloc HML HA HB HV
  go_wp2_with fail
  refine (mkLS _ _ _).mono ?_
  rintro e w3 ⟨rfl, hb⟩
  have A0 := HA2.out.below hb HA2.out.lt
  have c0 : w3.cell? ⟨w.heap.size, 0, none⟩ = some .nilIface := by rw [A0.cell]; rfl
  have c1 : w3.cell? ⟨w.heap.size, 1, none⟩ = some (.int .i32 0) := by rw [A0.cell]; rfl
  have f0 := A0.frozen 0
  have f1 := A0.frozen 1
  have l0 := A0.lt
  have HA3 := Lib.hid A0
  have HB3 := Lib.hid (HB2.out.trans (hb.mono HB2.out.size))
  have HV3 := Lib.hid (HV2.out.keep (KX.below hb))
  have HLO3 := Lib.hid (HLO.out.keep (KX.below hb))
  clear A0 hb HA2 HB2 HV2 HLO
  go_wp2_with fail
  have hkx : ∀ x y : Value, KX w3 ((w3.setCell ⟨w.heap.size, 0, none⟩ x).setCell ⟨w.heap.size, 1, none⟩ y) := fun x y b t cs h _ h2 _ => (h.far (by simpa using atNe h HA3.out h2) _).far (by simpa using atNe h HA3.out h2) _
  exact bodyPost_ret (v := .agg #[.iface 181 (.pointer (some ⟨sl, 0, none⟩)), .int .i32 i]) (by simp [results, Tryd.results12, go_sem, *]) rfl ⟨_, _, rfl, .inr ⟨by decide, sl, val, _, rfl, HLO3.out.keep (hkx _ _), HV3.out.keep (hkx _ _)⟩, (HB3.out.setCell (by simp) _).setCell (by simp) _⟩

set_option maxRecDepth 100000 in
theorem zst4 (i : Nat) (b v : Int) (dp : Nat) (w : World) (hi : i ≤ 70000) (hdp : dp ≤ 2) : Calls Tryd.prog 12 #[.int .i64 4, .int .i64 i, .int .u32 b, .int .u32 v, .int .i64 dp] w (STP 4 b v i w) := by
  have l1 : Value.int .i32 (IntKind.i32.wrap (i : Int)) = .int .i32 (i : Int) := by rw [IntWalk.i32_in _ (by omega)]
  have HZV := Lib.hid (fun W => zval 4 v dp W hdp (by decide))
  clear hi hdp
  go_enter Tryd.func12, Tryd.ntmps12
  go_wp2_with fail
  refine (HZV.out _).mono ?_
  rintro e w1 ⟨val, rfl, hv, hb⟩
  have A0 := (At.new w 42 #[.nilIface, .int .i32 0]).below hb (by simp)
  have HA := Lib.hid A0
  have HB := Lib.hid (show Below w.heap.size w w1 from ((Below.refl _ w).alloc (Nat.le_refl _) _).trans (hb.mono (by simp)))
  have HV := Lib.hid hv
  have HML := Lib.hid (fun ie ex lo => mkLocal ie ex lo b v val _ _ w1 hv)
  clear A0 hb hv HZV
  go_wp2_with fail
  refine (HML.out _ _ _).mono ?_
  rintro e w2 ⟨sl, rfl, hloc, hb⟩
  have HA2 := Lib.hid (HA.out.below hb HA.out.lt)
  have HB2 := Lib.hid (HB.out.trans (hb.mono HB.out.size))
  have HV2 := Lib.hid (HV.out.keep (KX.below hb))
  have HLO := Lib.hid hloc
  clear hb hloc HML HA HB HV
  go_wp2_with fail
  refine (mkLS _ _ _).mono ?_
  rintro e w3 ⟨rfl, hb⟩
  have A0 := HA2.out.below hb HA2.out.lt
  have c0 : w3.cell? ⟨w.heap.size, 0, none⟩ = some .nilIface := by rw [A0.cell]; rfl
  have c1 : w3.cell? ⟨w.heap.size, 1, none⟩ = some (.int .i32 0) := by rw [A0.cell]; rfl
  have f0 := A0.frozen 0
  have f1 := A0.frozen 1
  have l0 := A0.lt
  have HA3 := Lib.hid A0
  have HB3 := Lib.hid (HB2.out.trans (hb.mono HB2.out.size))
  have HV3 := Lib.hid (HV2.out.keep (KX.below hb))
  have HLO3 := Lib.hid (HLO.out.keep (KX.below hb))
  clear A0 hb HA2 HB2 HV2 HLO
  go_wp2_with fail
  have hkx : ∀ x y : Value, KX w3 ((w3.setCell ⟨w.heap.size, 0, none⟩ x).setCell ⟨w.heap.size, 1, none⟩ y) := fun x y b t cs h _ h2 _ => (h.far (by simpa using atNe h HA3.out h2) _).far (by simpa using atNe h HA3.out h2) _
  exact bodyPost_ret (v := .agg #[.iface 181 (.pointer (some ⟨sl, 0, none⟩)), .int .i32 i]) (by simp [results, Tryd.results12, go_sem, *]) rfl ⟨_, _, rfl, .inr ⟨by decide, sl, val, _, rfl, HLO3.out.keep (hkx _ _), HV3.out.keep (hkx _ _)⟩, (HB3.out.setCell (by simp) _).setCell (by simp) _⟩

set_option maxRecDepth 100000 in
theorem zst5 (i : Nat) (b v : Int) (dp : Nat) (w : World) (hi : i ≤ 70000) (hdp : dp ≤ 2) : Calls Tryd.prog 12 #[.int .i64 5, .int .i64 i, .int .u32 b, .int .u32 v, .int .i64 dp] w (STP 5 b v i w) := by
  have l1 : Value.int .i32 (IntKind.i32.wrap (i : Int)) = .int .i32 (i : Int) := by rw [IntWalk.i32_in _ (by omega)]
  have HZV := Lib.hid (fun W => zval 5 v dp W hdp (by decide))
  clear hi hdp
  go_enter Tryd.func12, Tryd.ntmps12
  go_wp2_with fail
  refine (HZV.out _).mono ?_
  rintro e w1 ⟨val, rfl, hv, hb⟩
  have A0 := (At.new w 42 #[.nilIface, .int .i32 0]).below hb (by simp)
  have HA := Lib.hid A0
  have HB := Lib.hid (show Below w.heap.size w w1 from ((Below.refl _ w).alloc (Nat.le_refl _) _).trans (hb.mono (by simp)))
  have HV := Lib.hid hv
  have HML := Lib.hid (fun ie ex lo => mkLocal ie ex lo b v val _ _ w1 hv)
  clear A0 hb hv HZV
  go_wp2_with fail
  refine (HML.out _ _ _).mono ?_
  rintro e w2 ⟨sl, rfl, hloc, hb⟩
  have HA2 := Lib.hid (HA.out.below hb HA.out.lt)
  have HB2 := Lib.hid (HB.out.trans (hb.mono HB.out.size))
  have HV2 := Lib.hid (HV.out.keep (KX.below hb))
  have HLO := Lib.hid hloc
  clear hb hloc HML HA HB HV
  go_wp2_with fail
  refine (mkLS _ _ _).mono ?_
  rintro e w3 ⟨rfl, hb⟩
  have A0 := HA2.out.below hb HA2.out.lt
  have c0 : w3.cell? ⟨w.heap.size, 0, none⟩ = some .nilIface := by rw [A0.cell]; rfl
  have c1 : w3.cell? ⟨w.heap.size, 1, none⟩ = some (.int .i32 0) := by rw [A0.cell]; rfl
  have f0 := A0.frozen 0
  have f1 := A0.frozen 1
  have l0 := A0.lt
  have HA3 := Lib.hid A0
  have HB3 := Lib.hid (HB2.out.trans (hb.mono HB2.out.size))
  have HV3 := Lib.hid (HV2.out.keep (KX.below hb))
  have HLO3 := Lib.hid (HLO.out.keep (KX.below hb))
  clear A0 hb HA2 HB2 HV2 HLO
  go_wp2_with fail
  have hkx : ∀ x y : Value, KX w3 ((w3.setCell ⟨w.heap.size, 0, none⟩ x).setCell ⟨w.heap.size, 1, none⟩ y) := fun x y b t cs h _ h2 _ => (h.far (by simpa using atNe h HA3.out h2) _).far (by simpa using atNe h HA3.out h2) _
  exact bodyPost_ret (v := .agg #[.iface 181 (.pointer (some ⟨sl, 0, none⟩)), .int .i32 i]) (by simp [results, Tryd.results12, go_sem, *]) rfl ⟨_, _, rfl, .inr ⟨by decide, sl, val, _, rfl, HLO3.out.keep (hkx _ _), HV3.out.keep (hkx _ _)⟩, (HB3.out.setCell (by simp) _).setCell (by simp) _⟩

theorem zstmt (kd : Int) (i : Nat) (b v : Int) (dp : Nat) (w : World) (hi : i ≤ 70000) (hdp : dp ≤ 2) (hk : 0 ≤ kd ∧ kd ≤ 5) : Calls Tryd.prog 12 #[.int .i64 kd, .int .i64 i, .int .u32 b, .int .u32 v, .int .i64 dp] w (STP kd b v i w) := by
  obtain rfl | rfl | rfl | rfl | rfl | rfl : kd = 0 ∨ kd = 1 ∨ kd = 2 ∨ kd = 3 ∨ kd = 4 ∨ kd = 5 := by omega
  · exact zst0 i b v dp w hi
  · exact zst1 i b v dp w hi hdp
  · exact zst2 i b v dp w hi hdp
  · exact zst3 i b v dp w hi hdp
  · exact zst4 i b v dp w hi hdp
  · exact zst5 i b v dp w hi hdp

end UX
end Go.Proofs.YthgcchgpplblbaaDoor
