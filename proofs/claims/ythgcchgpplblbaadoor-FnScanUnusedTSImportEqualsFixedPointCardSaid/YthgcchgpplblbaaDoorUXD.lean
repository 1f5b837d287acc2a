/- Proved here: zzSymbols, the new parser, the symbols' reader, ignoreUsage. Conditions as stated. -/
import Derived.Test.YthgcchgpplblbaaDoorUXC
import Derived.WalkKit
import Derived.WalkSpells
import Derived.WalkLawsBesides
import Derived.Lib.Hide
import Derived.Lib.SliceRun
import Derived.Deep.RegionWith
import Derived.OwnWalk
import Derived.Laws.OwnMore
import Derived.BigRegion
import Derived.Carry
import Derived.IntWalk
namespace Go.Proofs.YthgcchgpplblbaaDoor
open Go.RowKit
set_option linter.unusedSimpArgs false
set_option linter.unusedVariables false

namespace UX
def SYM (w : World) (Y n : Nat) (C : List Int) : Prop := ∃ cs, At w Y 54 cs ∧ cs.size = n * 10 ∧ C.length = n ∧ ∀ k, k < n → cs[k * 10 + 4]? = some (.int .u32 (C.getD k 0))
def C0 (z : List Int) (m n : Nat) : List Int := (List.range n).map (fun i => gU z m i 0)
theorem C0_get {z : List Int} {m n i : Nat} (h : i < n) : (C0 z m n).getD i 0 = gU z m i 0 := by simp [C0, List.getD, h]
def SYP (z : List Int) (m n : Nat) (w : World) (e : Ending) (w' : World) : Prop := ∃ Y, e = .returned (.slice (some ⟨Y, 0, none⟩) n n) ∧ SYM w' Y n (C0 z m n) ∧ w.heap.size ≤ Y ∧ Below w.heap.size w w'
def SYrel (z : List Int) (m n : Nat) (w : World) (i : Value) (wr : World) : Prop := ∃ (k : Nat) (cs : Array Value), k ≤ n ∧ i = .int .i64 k ∧ Hid (At wr w.heap.size 54 cs ∧ cs.size = n * 10 ∧ (∀ j, j < k → cs[j * 10 + 4]? = some (.int .u32 (gU z m j 0))) ∧ Below w.heap.size w wr)
set_option maxRecDepth 100000 in
set_option maxHeartbeats 4000000 in
theorem zsyms (a : Option Addr) (m c n : Nat) (z : List Int) (w : World) (h : RowU w a m z) (hn : n ≤ 4096) : Calls Tryd.prog 7 #[.slice a m c, .int .i64 n] w (SYP z m n w) := by
  have hmk := made (P := Tryd.prog) (t := 31) (e := 54) (z := .agg #[.pointer none, .string ⟨#[]⟩, .int .u32 0, .int .u32 0, .int .u32 0, .int .u32 0, .int .u32 0, .int .u16 0, .int .u8 0, .int .u8 0]) (sz := 10) (by_ := 48) Tryd.underlying31 (by kernel_rfl) w n (by omega) (by omega)
  have hn0 : (0 : Int) ≤ (n : Int) := Int.natCast_nonneg _
  have HR := Lib.hid h
  clear h
  go_enter Tryd.func7, Tryd.ntmps7
  go_wp2_with fail
  go_loopw [6] (fun i wr => SYrel z m n w i wr) (fun i _ => n - (intOf i).toNat)
  case atStart => exact ⟨0, _, Nat.zero_le _, rfl, Lib.hid ⟨At.new _ _ _, by simp [size_madeCells, Value.cells], fun j hj => absurd hj (by omega), (Below.refl _ _).alloc (Nat.le_refl _) _⟩⟩
  case round =>
    obtain ⟨k, cs, hk, rfl, H⟩ := hrel
    have hk0 : (0 : Int) ≤ (k : Int) := Int.natCast_nonneg _
    clear hmk
    by_cases hlt : k < n
    · have hlt1 : (k : Int) < (n : Int) := by omega
      have HG := Lib.hid (getU a m c z k 0 wr (HR.out.below H.out.2.2.2))
      have c4 : wr.cell? ⟨w.heap.size, k * 10 + 4, none⟩ = some (cs.getD (k * 10 + 4) .nilIface) := by
        have hsz := H.out.2.1
        rw [H.out.1.cell]
        simp [Array.getD, Array.getElem?_eq_getElem (show k * 10 + 4 < cs.size by omega), show k * 10 + 4 < cs.size by omega]
      have f4 := H.out.1.frozen (k * 10 + 4)
      have lw := H.out.1.lt
      have HI := Lib.hid (itoa k (by omega))
      go_wp2_with fail
      refine HG.out.mono ?_
      rintro e w1 ⟨rfl, rfl⟩
      go_wp2_with fail
      refine (HI.out _).mono ?_
      rintro e w2 ⟨⟨s, rfl⟩, hb⟩
      have HA := Lib.hid ((H.out.1.set (k * 10 + 4) (.int .u32 (gU z m k 0))).below hb (by simp [World.setCell]; omega))
      have HB := Lib.hid ((H.out.2.2.2.setCell (p := ⟨w.heap.size, k * 10 + 4, none⟩) (by simp) (.int .u32 (gU z m k 0))).trans (hb.mono (by have := H.out.2.2.2.size; simpa [World.setCell] using this)))
      have c1 : w2.cell? ⟨w.heap.size, k * 10 + 1, none⟩ = some ((cs.setIfInBounds (k * 10 + 4) (.int .u32 (gU z m k 0))).getD (k * 10 + 1) .nilIface) := by
        have hsz := H.out.2.1
        rw [HA.out.cell]
        have h2 : k * 10 + 1 < (cs.setIfInBounds (k * 10 + 4) (.int .u32 (gU z m k 0))).size := by simp; omega
        rw [Array.getElem?_eq_getElem h2]
        simp only [Array.getD, h2, dif_pos]
        rfl
      have f1 := HA.out.frozen (k * 10 + 1)
      have lw2 := HA.out.lt
      clear c4 f4 lw hb HI HG
      go_wp2_with fail
      go_roundw
      case rel =>
        refine ⟨k + 1, _, by omega, by go_num, Lib.hid ⟨HA.out.set (k * 10 + 1) _, by simp [H.out.2.1], fun j hj => ?_, HB.out.setCell (by simp) _⟩⟩
        have hsz := H.out.2.1
        rw [Array.getElem?_setIfInBounds_ne (by omega)]
        by_cases e : j = k
        · subst e
          rw [Array.getElem?_setIfInBounds_self_of_lt (by omega)]
        · rw [Array.getElem?_setIfInBounds_ne (by omega)]
          exact H.out.2.2.1 j (by omega)
      case measure => simp [intOf]; omega
    · obtain rfl : k = n := by omega
      have hlt1 : ¬ (k : Int) < (k : Int) := by omega
      go_wp2_with fail
      go_ret
      exact ⟨_, rfl, ⟨cs, H.out.1, H.out.2.1, by simp [C0], fun j hj => by rw [C0_get hj]; exact H.out.2.2.1 j hj⟩, Nat.le_refl _, H.out.2.2.2⟩
/-- The parser's cells that the scan reads. -/
structure PX (w : World) (p Y n : Nat) : Prop where
  s : w.cell? ⟨p, 106, none⟩ = some (.slice (some ⟨Y, 0, none⟩) n n)
  d : w.cell? ⟨p, 350, none⟩ = some (.bool false)
  c : w.cell? ⟨p, 105, none⟩ = some (.pointer none)
  ty : ∃ cs, At w p 175 cs
noncomputable def pz (v : Value) : Array Value := (zeroOf Tryd.prog 175).setIfInBounds 106 v
theorem pz_size (v : Value) : (pz v).size = 353 := by kernel_rfl
theorem pz_106 (v : Value) : (pz v)[106]? = some v := by kernel_rfl
theorem pz_350 (v : Value) : (pz v)[350]? = some (.bool false) := by kernel_rfl
theorem pz_105 (v : Value) : (pz v)[105]? = some (.pointer none) := by kernel_rfl
attribute [local go_sem] pz_size
theorem wpRun0 {P : Program} {ops : Array Oper} {rest : List Oper} {o : Oper} {a : Act} {w : World} {Q : Exit → Act → World → Prop} (hgd : o.guard = none) (v : Value)
    (hr : (execOp a.eval o).run P w = .ok (.value v) w) (h : wpList P ops Q rest (a.put o.dst v) w) : wpList P ops Q (o :: rest) a w := wpList_run hgd v w hr h
set_option maxRecDepth 100000 in
theorem newP (Y n : Nat) (w : World) : Calls Tryd.prog 6 #[.slice (some ⟨Y, 0, none⟩) n n] w fun e w' => e = .returned (.pointer (some ⟨w.heap.size, 0, none⟩)) ∧ PX w' w.heap.size Y n ∧ Below w.heap.size w w' := by
  go_enter Tryd.func6, Tryd.ntmps6
  go_wp2_with (refine wpRun0 (o := ⟨some 4, .build 175 _, _, _, _, _⟩) rfl (.agg (pz (.slice (some ⟨Y, 0, none⟩) n n))) ?hr ?_; case hr => kernel_rfl)
  have hat := At.new w 175 (pz (.slice (some ⟨Y, 0, none⟩) n n))
  exact bodyPost_ret (v := .pointer (some ⟨w.heap.size, 0, none⟩)) (by simp [results, Tryd.results6, go_sem]) rfl ⟨rfl, ⟨by rw [hat.cell]; exact pz_106 _, by rw [hat.cell]; exact pz_350 _, by rw [hat.cell]; exact pz_105 _, _, hat⟩, (Below.refl _ _).alloc (Nat.le_refl _) _⟩
theorem symsOf (p Y n : Nat) (w : World) (h : PX w p Y n) : Calls Tryd.prog 9 #[.pointer (some ⟨p, 0, none⟩)] w fun e w' => e = .returned (.slice (some ⟨Y, 0, none⟩) n n) ∧ w = w' := by
  have c := h.s
  have lp := World.block_lt_of_cell? _ _ c
  clear h
  go_enter Tryd.func9, Tryd.ntmps9
  go_wp2_with fail
  go_ret
  exact ⟨rfl, rfl⟩
/-- All blocks that were there are as they were, but Y. -/
def KY (Y : Nat) (w w' : World) : Prop := Below 0 w w' ∧ ∀ x, x < w.heap.size → x ≠ Y → w'.heap[x]? = w.heap[x]?
def decC (C : List Int) (v : Nat) : List Int := C.set v ((C.getD v 0 - 1) % 4294967296)
def IUP (Y n : Nat) (C : List Int) (v : Nat) (w : World) (e : Ending) (w' : World) : Prop := e = .returned (.tuple #[]) ∧ SYM w' Y n (decC C v) ∧ KY Y w w'
set_option maxRecDepth 100000 in
set_option maxHeartbeats 4000000 in
theorem ignU (p Y n v : Nat) (C : List Int) (w : World) (hp : PX w p Y n) (hs : SYM w Y n C) (hv : v < n) : Calls Tryd.prog 23 #[.pointer (some ⟨p, 0, none⟩), .agg #[.int .u32 0, .int .u32 v]] w (IUP Y n C v w) := by
  obtain ⟨h106, h350, h105, cp, hcp⟩ := hp
  obtain ⟨cs, hat, hsz, hC, hcs⟩ := hs
  have x4 : w.cell? ⟨Y, v * 10 + 4, none⟩ = some (.int .u32 (C.getD v 0)) := by rw [hat.cell]; exact hcs v hv
  have fz4 := hat.frozen (v * 10 + 4)
  have lg := hat.lt
  have lb := hcp.lt
  have gb' : ¬ p = Y := atNe hcp hat (by decide)
  have gb2 : ¬ Y = p := fun e => gb' e.symm
  have hv0 : (0 : Int) ≤ (v : Int) := Int.natCast_nonneg _
  have hv1 : (v : Int) < (n : Int) := by omega
  have END := Lib.hid (show ∀ W, At W Y 54 cs → At (W.setCell ⟨Y, v * 10 + 4, none⟩ (.int .u32 ((C.getD v 0 - 1) % 4294967296))) Y 54 (cs.setIfInBounds (v * 10 + 4) (.int .u32 ((C.getD v 0 - 1) % 4294967296))) from fun W h => h.set _ _)
  have HAT := Lib.hid hat
  have HCS := Lib.hid (⟨hsz, hC, hcs⟩ : cs.size = n * 10 ∧ C.length = n ∧ ∀ k, k < n → cs[k * 10 + 4]? = some (.int .u32 (C.getD k 0)))
  clear hat hcs hcp hsz hC
  obtain ⟨cv, hcv⟩ : ∃ cv, cv = C.getD v 0 := ⟨_, rfl⟩
  rw [← hcv] at x4
  have HCV := Lib.hid hcv
  clear hcv
  go_enter Tryd.func23, Tryd.ntmps23
  go_wp2_with fail
  go_region
  go_wp2_with fail
  go_end0
  have hC := HCS.out
  refine ⟨rfl, ⟨_, ((HAT.out.set (v * 10 + 4) (.int .u32 ((cv - 1) % 4294967296))).alloc _).drew, by simp [hC.1], by simp [decC, hC.2.1], fun k hk => ?_⟩, ?_, fun x hx hxy => ?_⟩
  · by_cases e : k = v
    · subst e
      rw [Array.getElem?_setIfInBounds_self_of_lt (by omega)]
      simp [decC, List.getD, hC.2.1, hk, HCV.out]
    · rw [Array.getElem?_setIfInBounds_ne (by omega), hC.2.2 k hk]
      simp [decC, List.getD, List.getElem?_set_ne (Ne.symm e)]
  · exact (((Below.refl 0 w).setCell (Nat.zero_le _) _).alloc (Nat.zero_le _) _).drew
  · exact (Below.heap_alloc _ _ x (by simpa [World.setCell] using hx)).trans (Below.heap_setCell _ _ _ x (by simpa using hxy))
end UX
end Go.Proofs.YthgcchgpplblbaaDoor
