/- Proved here: the walk of the law FnAddImportRecordIndexContinuesFromCount, for every input. -/
import Derived.Test.YthgcchgpplblbaaAIC
import Derived.WalkKit
import Derived.WalkSpells
import Derived.WalkLawsBesides
import Derived.Lib.Hide
import Derived.Lib.SliceRun
import Derived.Deep.RegionWith
import Derived.OwnWalk
import Derived.Laws.OwnMore
import Derived.Deep.RegionHeld3
import Derived.Deep.DeepCutAuto
import Derived.Deep.QuietTactic
import Derived.BigQuiet
namespace Go.Proofs.Ythgcchgpplblbaa.fnAddImportRecordIndexContinuesFromCount
open Go.RowKit
set_option linter.unusedSimpArgs false
set_option linter.unusedVariables false

theorem isStrsBelow {w w1 : World} {a : Option Addr} {len cap : Nat} {zs : List ByteArray} (h : IsStrs w a len cap zs) (hb : Below w.heap.size w w1) : IsStrs w1 a len cap zs := by
  rcases h with h | ⟨x, e1, e2, e3, e4, hc, hw⟩
  · exact .inl h
  · refine .inr ⟨x, e1, e2, e3, e4, fun i hi => ?_, hw⟩
    have := hc i hi
    obtain ⟨b, off, rfl⟩ := spot_none (hc 0 (by omega))
    rw [add_none] at this ⊢
    exact kept hb this
theorem isRowBelow {k : IntKind} {w w1 : World} {a : Option Addr} {len cap : Nat} {zs : List Int} (h : IsRow k w a len cap zs) (hb : Below w.heap.size w w1) : IsRow k w1 a len cap zs := by
  rcases h with h | ⟨x, e1, e2, e3, e4, hc, hw⟩
  · exact .inl h
  · refine .inr ⟨x, e1, e2, e3, e4, fun i hi => ?_, hw⟩
    have := hc i hi
    obtain ⟨b, off, rfl⟩ := spot_none (hc 0 (by omega))
    rw [add_none] at this ⊢
    exact kept hb this
theorem isBoolsBelow {w w1 : World} {a : Option Addr} {len cap : Nat} {zs : List Bool} (h : IsBools w a len cap zs) (hb : Below w.heap.size w w1) : IsBools w1 a len cap zs := by
  rcases h with h | ⟨x, e1, e2, e3, e4, hc⟩
  · exact .inl h
  · refine .inr ⟨x, e1, e2, e3, e4, fun i hi => ?_⟩
    have := hc i hi
    obtain ⟨b, off, rfl⟩ := spot_none (hc 0 (by omega))
    rw [add_none] at this ⊢
    exact kept hb this
def recAt (xs : List Value) (t : Nat) (A : Option Addr) (tx : ByteArray) (st ln fl ph kd : Int) : Prop :=
  xs[t * 15 + 0]? = some (.pointer A) ∧ xs[t * 15 + 2]? = some (.string tx) ∧ xs[t * 15 + 7]? = some (.int .i32 st) ∧ xs[t * 15 + 8]? = some (.int .i32 ln) ∧ xs[t * 15 + 12]? = some (.int .u16 fl) ∧ xs[t * 15 + 13]? = some (.int .u8 ph) ∧ xs[t * 15 + 14]? = some (.int .u8 kd)
theorem recAt.app {xs : List Value} {t : Nat} {A : Option Addr} {tx : ByteArray} {st ln fl ph kd : Int} (h : recAt xs t A tx st ln fl ph kd) (ys : List Value) : recAt (xs ++ ys) t A tx st ln fl ph kd := by
  have key : ∀ i v, xs[i]? = some v → (xs ++ ys)[i]? = some v := fun i v hi => by
    rw [List.getElem?_append_left (List.getElem?_eq_some_iff.1 hi).1]; exact hi
  exact ⟨key _ _ h.1, key _ _ h.2.1, key _ _ h.2.2.1, key _ _ h.2.2.2.1, key _ _ h.2.2.2.2.1, key _ _ h.2.2.2.2.2.1, key _ _ h.2.2.2.2.2.2⟩
theorem recAt.new {xs : List Value} {t : Nat} (hl : xs.length = t * 15) (A : Option Addr) (tx : ByteArray) (st ln fl ph kd : Int) : recAt (xs ++ rec1 A tx st ln fl ph kd) t A tx st ln fl ph kd := by
  have key : ∀ i v, (rec1 A tx st ln fl ph kd)[i]? = some v → (xs ++ rec1 A tx st ln fl ph kd)[t * 15 + i]? = some v := fun i v hi => by
    rw [List.getElem?_append_right (by omega), hl, show t * 15 + i - t * 15 = i by omega]; exact hi
  exact ⟨key _ _ rfl, key _ _ rfl, key _ _ rfl, key _ _ rfl, key _ _ rfl, key _ _ rfl, key _ _ rfl⟩
theorem prLen {w : World} {B b n : Nat} {xs : List Value} (h : PR w B b n xs) : xs.length = n * 15 := by
  obtain ⟨_, _, _, _, hown, _⟩ := h
  exact hown.1
theorem prBlk {w w' : World} {B b n : Nat} {xs : List Value} (h : PR w B b n xs) (hb : w'.heap[b]? = w.heap[b]?) (hr : ∀ (k : Nat) (cs : Array Value), w.heap[k]? = some (Obj.cells cs 184 (0, 0)) → w'.heap[k]? = some (Obj.cells cs 184 (0, 0))) : PR w' B b n xs := by
  obtain ⟨a, c, h169, f169, hown, hne⟩ := h
  refine ⟨a, c, (World.cell?_of_block (a := ⟨b, 169, none⟩) hb).trans h169, (World.frozen?_of_block (a := ⟨b, 169, none⟩) hb).trans f169, ?_, hne⟩
  obtain ⟨e, h | ⟨g, cap, cur, hv, h1, hg, h2⟩⟩ := hown
  · exact ⟨e, .inl h⟩
  · exact ⟨e, .inr ⟨g, cap, cur, hv, h1, hr g cur hg, h2⟩⟩
theorem prLt {w : World} {B b n : Nat} {xs : List Value} (h : PR w B b n xs) : b < w.heap.size := by
  obtain ⟨_, _, h169, _⟩ := h
  exact World.block_lt_of_cell? _ _ h169
theorem prAlloc {w : World} {B b n : Nat} {xs : List Value} (h : PR w B b n xs) (o : Obj) : PR (w.alloc o) B b n xs :=
  prBlk h (Below.heap_alloc w o b (prLt h)) (fun k cs hk => (Below.heap_alloc w o k (Array.getElem?_eq_some_iff.1 hk).1).trans hk)
theorem prSet {w : World} {B b n : Nat} {xs : List Value} (h : PR w B b n xs) {g : Nat} {t : TypeId} {cs : Array Value} (hat : At w g t cs) (ht : t ≠ 184) (hg : g ≠ b) (i : Nat) (u : Value) : PR (w.setCell ⟨g, i, none⟩ u) B b n xs :=
  prBlk h (Below.heap_setCell w ⟨g, i, none⟩ u b (fun e => hg (by rw [e]))) (fun k cs' hk => (Below.heap_setCell w ⟨g, i, none⟩ u k (fun e => by have h1 : w.heap[k]? = some (Obj.cells cs t (0, 0)) := (by rw [e]; exact hat); rw [h1] at hk; simp only [Option.some.injEq, Obj.cells.injEq] at hk; exact ht hk.2.1)).trans hk)
/-- The first j of a row of pointers and of the records agree, and each record is as f says. -/
def Rel1 (o j : Nat) (xs : List Value) (cs : Array Value) (f : Nat → Option Addr → Prop) : Prop := ∀ t, t < j → ∃ A, cs[t]? = some (.pointer A) ∧ f t A

@[local go_sem] theorem pnA (A : Option Addr) (w : World) : (binOp .neq 33 (.pointer A) (.pointer A)).run Try.prog w = .ok (.bool false) w := by
  cases A with
  | none => kernel_rfl
  | some a => exact pn33 a w

def PreF (z0 : List ByteArray) (z1 : List Int) (xs : List Value) (t : Nat) (A : Option Addr) : Prop := recAt xs t A (sAt z0 t) (IntKind.i32.wrap (t : Int)) (IntKind.i32.wrap ((sAt z0 t).size : Int)) (F16 (z1.getD t 0)) (IntKind.u8.wrap ((t : Int) / 256)) (IntKind.u8.wrap (t : Int))
def LR1 (V : World) (b P1 : Nat) (z0 : List ByteArray) (z1 : List Int) (m : Nat) (i : Value) (wr : World) : Prop :=
  ∃ (j : Nat) (xs : List Value) (cs : Array Value), j ≤ m ∧ i = .int .i64 j ∧ Hid (PR wr b b j xs) ∧ Hid (At wr P1 33 cs) ∧ Hid (cs.size = m) ∧ Hid (∀ t, t < j → ∃ A, cs[t]? = some (.pointer A) ∧ PreF z0 z1 xs t A) ∧ Hid (Below V.heap.size V wr)
def LatF (z3 : List ByteArray) (z4 : List Int) (xs : List Value) (o t : Nat) (A : Option Addr) : Prop := recAt xs (o + t) A (sAt z3 t) (-1) 0 (F16 (z4.getD t 0)) 0 2
def LR2 (V : World) (b P1 P2 : Nat) (z0 : List ByteArray) (z1 : List Int) (z3 : List ByteArray) (z4 : List Int) (m n : Nat) (cs : Array Value) (i : Value) (wr : World) : Prop :=
  ∃ (k : Nat) (xs : List Value) (ds : Array Value), k ≤ n ∧ i = .int .i64 k ∧ Hid (PR wr b b (m + k) xs) ∧ Hid (At wr P1 33 cs) ∧ Hid (At wr P2 33 ds) ∧ Hid (ds.size = n) ∧ Hid (∀ t, t < m → ∃ A, cs[t]? = some (.pointer A) ∧ PreF z0 z1 xs t A) ∧ Hid (∀ t, t < k → ∃ A, ds[t]? = some (.pointer A) ∧ LatF z3 z4 xs m t A) ∧ Hid (Below V.heap.size V wr)

def LR3 (V : World) (b P1 P2 N M : Nat) (ys : List Value) (cs ds : Array Value) (i : Value) (wr : World) : Prop :=
  ∃ t : Nat, t ≤ M ∧ i = .int .i64 t ∧ Hid (PR wr b b N ys) ∧ Hid (At wr P1 33 cs) ∧ Hid (At wr P2 33 ds) ∧ Hid (Below V.heap.size V wr)

set_option maxRecDepth 100000 in
set_option maxHeartbeats 16000000 in
theorem main (a0 : Option Addr) (len0 cap0 : Nat) (z0 : List ByteArray) (a1 : Option Addr) (len1 cap1 : Nat) (z1 : List Int) (a2 : Option Addr) (len2 cap2 : Nat) (z2 : List Bool) (a3 : Option Addr) (len3 cap3 : Nat) (z3 : List ByteArray) (a4 : Option Addr) (len4 cap4 : Nat) (z4 : List Int) (a5 : Option Addr) (len5 cap5 : Nat) (z5 : List Bool) (w : World) (w0 : IsStrs w a0 len0 cap0 z0) (w1 : IsRow .u32 w a1 len1 cap1 z1) (w2 : IsBools w a2 len2 cap2 z2) (w3 : IsStrs w a3 len3 cap3 z3) (w4 : IsRow .u32 w a4 len4 cap4 z4) (w5 : IsBools w a5 len5 cap5 z5)
    (l0 : len0 ≤ 1048576) (l1 : len1 ≤ 1048576) (l2 : len2 ≤ 1048576) (l3 : len3 ≤ 1048576) (l4 : len4 ≤ 1048576) (l5 : len5 ≤ 1048576) :
    Calls Try.prog 3 #[.slice a0 len0 cap0, .slice a1 len1 cap1, .slice a2 len2 cap2, .slice a3 len3 cap3, .slice a4 len4 cap4, .slice a5 len5 cap5] w fun e w' => e = .returned (.bool true) ∧ Below w.heap.size w w' := by
  have G4 := Lib.hid (b4 a0 len0 cap0 z0 a1 len1 cap1 a2 len2 cap2 a3 len3 cap3 z3 a4 len4 cap4 a5 len5 cap5 w (rowv_strs w0) (rowv_strs w3) (fun i => (len_strs w0).2 i) (fun i => (len_strs w3).2 i) (by omega) (by omega) (by omega) (by omega) (by omega) (by omega))
  have G5 := Lib.hid (i5_some a0 len0 cap0 z0 a1 len1 cap1 a2 len2 cap2 a3 len3 cap3 z3 a4 len4 cap4 a5 len5 cap5 w (rowv_strs w0) (rowv_strs w3) l0 l1 l2 l3 l4 l5)
  have W0 := Lib.hid w0
  have W1 := Lib.hid w1
  have W2 := Lib.hid w2
  have W3 := Lib.hid w3
  have W4 := Lib.hid w4
  have W5 := Lib.hid w5
  clear w0 w1 w2 w3 w4 w5
  go_enter Try.func3, Try.ntmps3
  go_wp2_with fail
  refine G4.out.mono ?_
  rintro e w' ⟨b, rfl, rfl⟩
  cases b
  · go_wp2_with fail
    go_ret
    exact ⟨rfl, Below.refl _ _⟩
  go_wp2_with fail
  refine G5.out.mono ?_
  rintro e w' ⟨r, rfl, rfl⟩
  clear G4 G5
  by_cases hr : 1048576 < r
  · go_wp2_with fail
    go_ret
    exact ⟨rfl, Below.refl _ _⟩
  go_wp2_with fail
  refine (cpS_any a0 len0 cap0 z0 _ W0.out l0).mono ?_
  rintro e v1 ⟨p0, q0, rfl, s, hb⟩
  have R0' := Lib.hid s
  have W1' := Lib.hid (isRowBelow W1.out hb)
  have W2' := Lib.hid (isBoolsBelow W2.out hb)
  have W3' := Lib.hid (isStrsBelow W3.out hb)
  have W4' := Lib.hid (isRowBelow W4.out hb)
  have W5' := Lib.hid (isBoolsBelow W5.out hb)
  have VB' := Lib.hid hb
  clear s hb W0 W1 W2 W3 W4 W5
  have R0 := R0'
  have W1 := W1'
  have W2 := W2'
  have W3 := W3'
  have W4 := W4'
  have W5 := W5'
  have VB := VB'
  clear R0' W1' W2' W3' W4' W5' VB'
  go_wp2_with fail
  refine (cpU_any a1 len1 cap1 z1 _ W1.out l1).mono ?_
  rintro e v2 ⟨p1, q1, rfl, s, hb⟩
  have R0' := Lib.hid (RowV.below R0.out hb)
  have R1' := Lib.hid s
  have W2' := Lib.hid (isBoolsBelow W2.out hb)
  have W3' := Lib.hid (isStrsBelow W3.out hb)
  have W4' := Lib.hid (isRowBelow W4.out hb)
  have W5' := Lib.hid (isBoolsBelow W5.out hb)
  have VB' := Lib.hid (bel2 VB.out hb)
  clear s hb R0 W1 W2 W3 W4 W5 VB
  have R0 := R0'
  have R1 := R1'
  have W2 := W2'
  have W3 := W3'
  have W4 := W4'
  have W5 := W5'
  have VB := VB'
  clear R0' R1' W2' W3' W4' W5' VB'
  go_wp2_with fail
  refine (cpB_any a2 len2 cap2 z2 _ W2.out l2).mono ?_
  rintro e v3 ⟨p2, q2, rfl, s, hb⟩
  have R0' := Lib.hid (RowV.below R0.out hb)
  have R1' := Lib.hid (RowV.below R1.out hb)
  have R2' := Lib.hid s
  have W3' := Lib.hid (isStrsBelow W3.out hb)
  have W4' := Lib.hid (isRowBelow W4.out hb)
  have W5' := Lib.hid (isBoolsBelow W5.out hb)
  have VB' := Lib.hid (bel2 VB.out hb)
  clear s hb R0 R1 W2 W3 W4 W5 VB
  have R0 := R0'
  have R1 := R1'
  have R2 := R2'
  have W3 := W3'
  have W4 := W4'
  have W5 := W5'
  have VB := VB'
  clear R0' R1' R2' W3' W4' W5' VB'
  go_wp2_with fail
  refine (cpS_any a3 len3 cap3 z3 _ W3.out l3).mono ?_
  rintro e v4 ⟨p3, q3, rfl, s, hb⟩
  have R0' := Lib.hid (RowV.below R0.out hb)
  have R1' := Lib.hid (RowV.below R1.out hb)
  have R2' := Lib.hid (RowV.below R2.out hb)
  have R3' := Lib.hid s
  have W4' := Lib.hid (isRowBelow W4.out hb)
  have W5' := Lib.hid (isBoolsBelow W5.out hb)
  have VB' := Lib.hid (bel2 VB.out hb)
  clear s hb R0 R1 R2 W3 W4 W5 VB
  have R0 := R0'
  have R1 := R1'
  have R2 := R2'
  have R3 := R3'
  have W4 := W4'
  have W5 := W5'
  have VB := VB'
  clear R0' R1' R2' R3' W4' W5' VB'
  go_wp2_with fail
  refine (cpU_any a4 len4 cap4 z4 _ W4.out l4).mono ?_
  rintro e v5 ⟨p4, q4, rfl, s, hb⟩
  have R0' := Lib.hid (RowV.below R0.out hb)
  have R1' := Lib.hid (RowV.below R1.out hb)
  have R2' := Lib.hid (RowV.below R2.out hb)
  have R3' := Lib.hid (RowV.below R3.out hb)
  have R4' := Lib.hid s
  have W5' := Lib.hid (isBoolsBelow W5.out hb)
  have VB' := Lib.hid (bel2 VB.out hb)
  clear s hb R0 R1 R2 R3 W4 W5 VB
  have R0 := R0'
  have R1 := R1'
  have R2 := R2'
  have R3 := R3'
  have R4 := R4'
  have W5 := W5'
  have VB := VB'
  clear R0' R1' R2' R3' R4' W5' VB'
  go_wp2_with fail
  refine (cpB_any a5 len5 cap5 z5 _ W5.out l5).mono ?_
  rintro e v6 ⟨p5, q5, rfl, s, hb⟩
  have R0' := Lib.hid (RowV.below R0.out hb)
  have R1' := Lib.hid (RowV.below R1.out hb)
  have R2' := Lib.hid (RowV.below R2.out hb)
  have R3' := Lib.hid (RowV.below R3.out hb)
  have R4' := Lib.hid (RowV.below R4.out hb)
  have R5' := Lib.hid s
  have VB' := Lib.hid (bel2 VB.out hb)
  clear s hb R0 R1 R2 R3 R4 W5 VB
  have R0 := R0'
  have R1 := R1'
  have R2 := R2'
  have R3 := R3'
  have R4 := R4'
  have R5 := R5'
  have VB := VB'
  clear R0' R1' R2' R3' R4' R5' VB'
  go_upto_if 61 with (fail)
  go_cut [13] from 62 to 63 (fun s wx => ∃ m : Nat, s = .int .i64 m ∧ m ≤ len1 ∧ m ≤ len0 ∧ v6 = wx)
  case first =>
    by_cases h : len1 < len0
    · have e1 : decide (len1 < len0) = true := by simpa using h
      go_wp2_with fail
      go_meet
      exact ⟨len1, rfl, by omega, by omega, rfl⟩
    · have e1 : decide (len1 < len0) = false := by simpa using h
      go_wp2_with fail
      go_meet
      exact ⟨len0, rfl, by omega, by omega, rfl⟩
  case rest =>
  obtain ⟨m1, rfl, hm1a, hm1b, rfl⟩ := hcut
  go_upto_if 67 with (fail)
  go_cut [13] from 68 to 69 (fun s wx => ∃ m : Nat, s = .int .i64 m ∧ m ≤ len2 ∧ m ≤ m1 ∧ v6 = wx)
  case first =>
    by_cases h : len2 < m1
    · have e1 : decide (len2 < m1) = true := by simpa using h
      go_wp2_with fail
      go_meet
      exact ⟨len2, rfl, by omega, by omega, rfl⟩
    · have e1 : decide (len2 < m1) = false := by simpa using h
      go_wp2_with fail
      go_meet
      exact ⟨m1, rfl, by omega, by omega, rfl⟩
  case rest =>
  obtain ⟨m, rfl, hma, hmb, rfl⟩ := hcut
  go_upto_if 75 with (fail)
  go_cut [14] from 76 to 77 (fun s wx => ∃ m : Nat, s = .int .i64 m ∧ m ≤ len4 ∧ m ≤ len3 ∧ v6 = wx)
  case first =>
    by_cases h : len4 < len3
    · have e1 : decide (len4 < len3) = true := by simpa using h
      go_wp2_with fail
      go_meet
      exact ⟨len4, rfl, by omega, by omega, rfl⟩
    · have e1 : decide (len4 < len3) = false := by simpa using h
      go_wp2_with fail
      go_meet
      exact ⟨len3, rfl, by omega, by omega, rfl⟩
  case rest =>
  obtain ⟨n1, rfl, hn1a, hn1b, rfl⟩ := hcut
  go_upto_if 81 with (fail)
  go_cut [14] from 82 to 83 (fun s wx => ∃ m : Nat, s = .int .i64 m ∧ m ≤ len5 ∧ m ≤ n1 ∧ v6 = wx)
  case first =>
    by_cases h : len5 < n1
    · have e1 : decide (len5 < n1) = true := by simpa using h
      go_wp2_with fail
      go_meet
      exact ⟨len5, rfl, by omega, by omega, rfl⟩
    · have e1 : decide (len5 < n1) = false := by simpa using h
      go_wp2_with fail
      go_meet
      exact ⟨n1, rfl, by omega, by omega, rfl⟩
  case rest =>
  obtain ⟨n, rfl, hna, hnb, rfl⟩ := hcut
  by_cases hm : m ≤ 65536
  case neg =>
    go_wp2_with fail
    go_ret
    exact ⟨rfl, VB.out⟩
  by_cases hn : n ≤ 65536
  case neg =>
    go_wp2_with fail
    go_ret
    exact ⟨rfl, VB.out⟩
  go_wp2_with fail
  refine (newP v6).mono ?_
  rintro e w7 ⟨rfl, hp, hb7, hz7⟩
  have HP := Lib.hid hp
  have B7 := Lib.hid hb7
  obtain ⟨b, hb⟩ : ∃ b, b = v6.heap.size := ⟨_, rfl⟩
  rw [← hb] at HP ⊢
  have lb7 : b < w7.heap.size := by omega
  have hbV : v6.heap.size ≤ b := by omega
  clear hp hb7 hz7
  have HB := Lib.hid hb
  clear hb
  have hmk := made (P := Try.prog) (t := 32) (e := 33) (z := .pointer none) (sz := 1) (by_ := 8) Try.underlying32 (by kernel_rfl) w7 m (by omega) (by omega)
  rw [Nat.mul_one] at hmk
  go_wp2_with fail
  clear hmk
  go_loopw [17] (fun i wr => LR1 v6 b w7.heap.size z0 z1 m i wr) (fun i _ => m - (intOf i).toNat)
  case atStart => exact ⟨0, [], _, by omega, rfl, Lib.hid (prAlloc HP.out _), Lib.hid (At.new _ _ _), Lib.hid (by simp [size_madeCells, Value.cells]), Lib.hid (fun t ht => absurd ht (by omega)), Lib.hid (B7.out.alloc B7.out.size _)⟩
  case round =>
    obtain ⟨j, xs, cs, hj, rfl, HPj, HAj, HSj, HRj, HBj⟩ := hrel
    by_cases hlt : j < m
    · obtain ⟨B0, off0, e0, hc0⟩ := (RowV.below R0.out HBj.out) (by omega)
      obtain ⟨B1, off1, e1, hc1⟩ := (RowV.below R1.out HBj.out) (by omega)
      obtain ⟨B2, off2, e2, hc2⟩ := (RowV.below R2.out HBj.out) (by omega)
      have c0 : wr.cell? ⟨B0, off0 + j, none⟩ = some (.string (sAt z0 j)) := hc0 j (by omega)
      have c1 : wr.cell? ⟨B1, off1 + j, none⟩ = some (.int .u32 (z1.getD j 0)) := hc1 j (by omega)
      have c2 : wr.cell? ⟨B2, off2 + j, none⟩ = some (.bool (z2.getD j false)) := hc2 j (by omega)
      have lt0 : B0 < v6.heap.size := by obtain ⟨B, o, e, hc⟩ := R0.out (by omega); rw [e0] at e; cases e; exact World.block_lt_of_cell? _ _ (hc j (by omega))
      have lt1 : B1 < v6.heap.size := by obtain ⟨B, o, e, hc⟩ := R1.out (by omega); rw [e1] at e; cases e; exact World.block_lt_of_cell? _ _ (hc j (by omega))
      have lt2 : B2 < v6.heap.size := by obtain ⟨B, o, e, hc⟩ := R2.out (by omega); rw [e2] at e; cases e; exact World.block_lt_of_cell? _ _ (hc j (by omega))
      clear hc0 hc1 hc2
      subst e0 e1 e2
      have d0 : wr.cell? ⟨w7.heap.size, j, none⟩ = some (cs[j]'(by have := HSj.out; omega)) := by rw [HAj.out.cell j]; simp
      have df := HAj.out.frozen j
      have hj0 : (0 : Int) ≤ (j : Int) := Int.natCast_nonneg _
      have hj1 : (j : Int) < (m : Int) := by omega
      have hj2 : (j : Int) < (len0 : Int) := by omega
      have hj3 : (j : Int) < (len1 : Int) := by omega
      have hj4 : (j : Int) < (len2 : Int) := by omega
      obtain ⟨tx, htx⟩ : ∃ tx, tx = sAt z0 j := ⟨_, rfl⟩
      rw [← htx] at c0
      have HTX := Lib.hid htx
      obtain ⟨f1, hf1⟩ : ∃ f, f = z1.getD j 0 := ⟨_, rfl⟩
      rw [← hf1] at c1
      have HF1 := Lib.hid hf1
      clear htx hf1
      cases hbb : z2.getD j false
      · rw [hbb] at c2
        clear hbb
        go_wp2_with fail
        obtain ⟨A, hA⟩ : ∃ A : Option Addr, A = none := ⟨_, rfl⟩
        obtain ⟨W, hW⟩ : ∃ W, W = wr.setCell ⟨w7.heap.size, j, none⟩ (.pointer none) := ⟨_, rfl⟩
        rw [← hW, ← hA]
        have n0 : W.cell? ⟨B0, off0 + j, none⟩ = some (.string tx) := by rw [hW]; exact kSet c0 (by omega)
        have n1 : W.cell? ⟨B1, off1 + j, none⟩ = some (.int .u32 f1) := by rw [hW]; exact kSet c1 (by omega)
        have HPW := Lib.hid (show PR W b b j xs from by rw [hW]; exact prSet HPj.out HAj.out (by decide) (by omega) _ _)
        have HAW := Lib.hid (show At W w7.heap.size 33 (cs.setIfInBounds j (.pointer A)) from by rw [hW, hA]; exact HAj.out.set j _)
        have HBW := Lib.hid (show Below v6.heap.size v6 W from by rw [hW]; exact HBj.out.setCell (by show v6.heap.size ≤ w7.heap.size; omega) _)
        clear hW hA c0 c1 c2 d0 df HPj HBj HAj
        have lB0 := World.block_lt_of_cell? _ _ n0
        have lB1 := World.block_lt_of_cell? _ _ n1
        have lbW := prLt HPW.out
        go_region_held3 (fun w' => w'.cell? ⟨B0, off0 + j, none⟩ = some (.string tx) ∧ w'.cell? ⟨B1, off1 + j, none⟩ = some (.int .u32 f1)) (repeat' (first | (refine And.intro ?_ ?_) | assumption | apply kAlloc | apply kDrew)) ((go_at_call 11; refine (zAdd b b j xs A tx _ _ _ _ _ W.drew (Nat.le_refl _) (by omega) (show b ≤ _ from Nat.le_of_lt lbW) (show PR W.drew b b j xs from HPW.out)).mono ?_; rintro e w8 ⟨rfl, hp8, hk8, hb8⟩; have m0 : w8.cell? ⟨B0, off0 + j, none⟩ = some (.string tx) := (hb8.cell (p := ⟨B0, off0 + j, none⟩) (show B0 < b by omega)).trans n0; have m1 : w8.cell? ⟨B1, off1 + j, none⟩ = some (.int .u32 f1) := (hb8.cell (p := ⟨B1, off1 + j, none⟩) (show B1 < b by omega)).trans n1))
        all_goals
          have HP8 := Lib.hid hp8
          have HA8 := Lib.hid (Kp.at hk8 (show At W.drew w7.heap.size 33 _ from HAW.out) (by omega) (by decide))
          have HB8 := Lib.hid (show Below v6.heap.size v6 w8 from HBW.out.drew.trans (hb8.mono hbV))
          have HR8 := Lib.hid (show ∀ t, t < j + 1 → ∃ A1, (cs.setIfInBounds j (.pointer A))[t]? = some (.pointer A1) ∧ PreF z0 z1 (xs ++ rec1 A tx (IntKind.i32.wrap (j : Int)) (IntKind.i32.wrap (tx.size : Int)) (F16 f1) (IntKind.u8.wrap ((j : Int) / 256)) (IntKind.u8.wrap (j : Int))) t A1 from fun t ht => by
            by_cases e : t = j
            · subst e
              exact ⟨A, by simp [HSj.out, hlt], by have := recAt.new (prLen HPW.out) A tx (IntKind.i32.wrap (t : Int)) (IntKind.i32.wrap (tx.size : Int)) (F16 f1) (IntKind.u8.wrap ((t : Int) / 256)) (IntKind.u8.wrap (t : Int)); rw [HTX.out, HF1.out] at this ⊢; exact this⟩
            · obtain ⟨A', h1, h2⟩ := HRj.out t (by omega)
              exact ⟨A', by rw [Array.getElem?_setIfInBounds_ne (by omega)]; exact h1, recAt.app h2 _⟩)
          clear hp8 hk8 hb8 m0 m1 n0 n1 HPW HAW HBW HRj
          go_wp2_with fail
          go_roundw
          case rel => exact ⟨j + 1, _, _, by omega, by go_num, HP8, HA8, Lib.hid (by simp [HSj.out]), HR8, HB8⟩
          case measure => simp [intOf]; omega
      · rw [hbb] at c2
        clear hbb
        go_wp2_with fail
        refine (mkAs _).mono ?_
        rintro e w' ⟨rfl, ca, rfl⟩
        have lP : w7.heap.size < wr.heap.size := World.block_lt_of_cell? _ _ d0
        go_wp2_with fail
        obtain ⟨A, hA⟩ : ∃ A : Option Addr, A = (some ⟨wr.heap.size, 0, none⟩) := ⟨_, rfl⟩
        obtain ⟨W, hW⟩ : ∃ W, W = (wr.setCell ⟨w7.heap.size, j, none⟩ (.pointer (some ⟨wr.heap.size, 0, none⟩))).alloc (.cells ca 176) := ⟨_, rfl⟩
        rw [← hW, ← hA]
        have n0 : W.cell? ⟨B0, off0 + j, none⟩ = some (.string tx) := by rw [hW]; exact kAlloc (kSet c0 (by omega))
        have n1 : W.cell? ⟨B1, off1 + j, none⟩ = some (.int .u32 f1) := by rw [hW]; exact kAlloc (kSet c1 (by omega))
        have HPW := Lib.hid (show PR W b b j xs from by rw [hW]; exact prAlloc (prSet HPj.out HAj.out (by decide) (by omega) _ _) _)
        have HAW := Lib.hid (show At W w7.heap.size 33 (cs.setIfInBounds j (.pointer A)) from by rw [hW, hA]; exact At.alloc (HAj.out.set j _) _)
        have HBW := Lib.hid (show Below v6.heap.size v6 W from by rw [hW]; exact (HBj.out.setCell (by show v6.heap.size ≤ w7.heap.size; omega) _).alloc (by have := HBj.out.size; simp; omega) _)
        clear hW hA c0 c1 c2 d0 df HPj HBj HAj
        have lB0 := World.block_lt_of_cell? _ _ n0
        have lB1 := World.block_lt_of_cell? _ _ n1
        have lbW := prLt HPW.out
        go_region_held3 (fun w' => w'.cell? ⟨B0, off0 + j, none⟩ = some (.string tx) ∧ w'.cell? ⟨B1, off1 + j, none⟩ = some (.int .u32 f1)) (repeat' (first | (refine And.intro ?_ ?_) | assumption | apply kAlloc | apply kDrew)) ((go_at_call 11; refine (zAdd b b j xs A tx _ _ _ _ _ W.drew (Nat.le_refl _) (by omega) (show b ≤ _ from Nat.le_of_lt lbW) (show PR W.drew b b j xs from HPW.out)).mono ?_; rintro e w8 ⟨rfl, hp8, hk8, hb8⟩; have m0 : w8.cell? ⟨B0, off0 + j, none⟩ = some (.string tx) := (hb8.cell (p := ⟨B0, off0 + j, none⟩) (show B0 < b by omega)).trans n0; have m1 : w8.cell? ⟨B1, off1 + j, none⟩ = some (.int .u32 f1) := (hb8.cell (p := ⟨B1, off1 + j, none⟩) (show B1 < b by omega)).trans n1))
        all_goals
          have HP8 := Lib.hid hp8
          have HA8 := Lib.hid (Kp.at hk8 (show At W.drew w7.heap.size 33 _ from HAW.out) (by omega) (by decide))
          have HB8 := Lib.hid (show Below v6.heap.size v6 w8 from HBW.out.drew.trans (hb8.mono hbV))
          have HR8 := Lib.hid (show ∀ t, t < j + 1 → ∃ A1, (cs.setIfInBounds j (.pointer A))[t]? = some (.pointer A1) ∧ PreF z0 z1 (xs ++ rec1 A tx (IntKind.i32.wrap (j : Int)) (IntKind.i32.wrap (tx.size : Int)) (F16 f1) (IntKind.u8.wrap ((j : Int) / 256)) (IntKind.u8.wrap (j : Int))) t A1 from fun t ht => by
            by_cases e : t = j
            · subst e
              exact ⟨A, by simp [HSj.out, hlt], by have := recAt.new (prLen HPW.out) A tx (IntKind.i32.wrap (t : Int)) (IntKind.i32.wrap (tx.size : Int)) (F16 f1) (IntKind.u8.wrap ((t : Int) / 256)) (IntKind.u8.wrap (t : Int)); rw [HTX.out, HF1.out] at this ⊢; exact this⟩
            · obtain ⟨A', h1, h2⟩ := HRj.out t (by omega)
              exact ⟨A', by rw [Array.getElem?_setIfInBounds_ne (by omega)]; exact h1, recAt.app h2 _⟩)
          clear hp8 hk8 hb8 m0 m1 n0 n1 HPW HAW HBW HRj
          go_wp2_with fail
          go_roundw
          case rel => exact ⟨j + 1, _, _, by omega, by go_num, HP8, HA8, Lib.hid (by simp [HSj.out]), HR8, HB8⟩
          case measure => simp [intOf]; omega
    · have ej : j = m := by omega
      subst ej
      have e9 : decide (j < j) = false := by simp
      have hmk := made (P := Try.prog) (t := 32) (e := 33) (z := .pointer none) (sz := 1) (by_ := 8) Try.underlying32 (by kernel_rfl) wr n (by omega) (by omega)
      rw [Nat.mul_one] at hmk
      go_wp2_with fail
      clear hmk e9
      obtain ⟨P2, hP2⟩ : ∃ P, P = wr.heap.size := ⟨_, rfl⟩
      have lP1 : w7.heap.size < P2 := by rw [hP2]; exact HAj.out.lt
      have lbP : b < P2 := by rw [hP2]; exact prLt HPj.out
      have AT := Lib.hid (show At (wr.alloc (.cells (madeCells (Value.pointer none).cells n) 33)) P2 33 _ from by rw [hP2]; exact At.new _ _ _)
      rw [← hP2]
      have HSj0 := HSj
      clear hP2
      go_loopw [21] (fun i wq => LR2 v6 b w7.heap.size P2 z0 z1 z3 z4 j n cs i wq) (fun i _ => n - (intOf i).toNat)
      case atStart => exact ⟨0, xs, _, by omega, rfl, Lib.hid (prAlloc HPj.out _), Lib.hid (At.alloc HAj.out _), AT, Lib.hid (by simp [size_madeCells, Value.cells]), HRj, Lib.hid (fun t ht => absurd ht (by omega)), Lib.hid (HBj.out.alloc (by have := HBj.out.size; omega) _)⟩
      case round =>
        obtain ⟨k, ys, ds, hk, rfl, HPk, HAk, HDk, HSk, HRk, HLk, HBk⟩ := hrel
        clear HPj HAj HRj HBj AT
        by_cases hlt2 : k < n
        · obtain ⟨B3, off3, e3, hc3⟩ := (RowV.below R3.out HBk.out) (by omega)
          obtain ⟨B4, off4, e4, hc4⟩ := (RowV.below R4.out HBk.out) (by omega)
          obtain ⟨B5, off5, e5, hc5⟩ := (RowV.below R5.out HBk.out) (by omega)
          have c3 : wr.cell? ⟨B3, off3 + k, none⟩ = some (.string (sAt z3 k)) := hc3 k (by omega)
          have c4 : wr.cell? ⟨B4, off4 + k, none⟩ = some (.int .u32 (z4.getD k 0)) := hc4 k (by omega)
          have c5 : wr.cell? ⟨B5, off5 + k, none⟩ = some (.bool (z5.getD k false)) := hc5 k (by omega)
          have lt3 : B3 < v6.heap.size := by obtain ⟨B, o, e, hc⟩ := R3.out (by omega); rw [e3] at e; cases e; exact World.block_lt_of_cell? _ _ (hc k (by omega))
          have lt4 : B4 < v6.heap.size := by obtain ⟨B, o, e, hc⟩ := R4.out (by omega); rw [e4] at e; cases e; exact World.block_lt_of_cell? _ _ (hc k (by omega))
          have lt5 : B5 < v6.heap.size := by obtain ⟨B, o, e, hc⟩ := R5.out (by omega); rw [e5] at e; cases e; exact World.block_lt_of_cell? _ _ (hc k (by omega))
          clear hc3 hc4 hc5
          subst e3 e4 e5
          have d0 : wr.cell? ⟨P2, k, none⟩ = some (ds[k]'(by have := HSk.out; omega)) := by rw [HDk.out.cell k]; simp
          have df := HDk.out.frozen k
          have hk0 : (0 : Int) ≤ (k : Int) := Int.natCast_nonneg _
          have hk1 : (k : Int) < (n : Int) := by omega
          have hk3 : (k : Int) < (len3 : Int) := by omega
          have hk4 : (k : Int) < (len4 : Int) := by omega
          have hk5 : (k : Int) < (len5 : Int) := by omega
          obtain ⟨tx, htx⟩ : ∃ tx, tx = sAt z3 k := ⟨_, rfl⟩
          rw [← htx] at c3
          have HTX := Lib.hid htx
          obtain ⟨f4, hf4⟩ : ∃ f, f = z4.getD k 0 := ⟨_, rfl⟩
          rw [← hf4] at c4
          have HF4 := Lib.hid hf4
          clear htx hf4
          have q1 : (((j + k : Nat) : Int) != (j : Int) + (k : Int)) = false := by simp
          have q2 : (((j + k : Nat) : Int) == (j : Int) + (k : Int)) = true := by simp
          have qc := Int.natCast_add j k
          go_wp2_with fail
          refine (zCount b b (j + k) ys _ HPk.out).mono ?_
          rintro e w' ⟨rfl, rfl⟩
          cases hbb : z5.getD k false
          · rw [hbb] at c5
            clear hbb
            go_wp2_with fail
            obtain ⟨A, hA⟩ : ∃ A : Option Addr, A = none := ⟨_, rfl⟩
            obtain ⟨W, hW⟩ : ∃ W, W = wr.setCell ⟨P2, k, none⟩ (.pointer none) := ⟨_, rfl⟩
            rw [← hW, ← hA]
            have n3 : W.cell? ⟨B3, off3 + k, none⟩ = some (.string tx) := by rw [hW]; exact kSet c3 (by omega)
            have n4 : W.cell? ⟨B4, off4 + k, none⟩ = some (.int .u32 f4) := by rw [hW]; exact kSet c4 (by omega)
            have HPW := Lib.hid (show PR W b b (j + k) ys from by rw [hW]; exact prSet HPk.out HDk.out (by decide) (by omega) _ _)
            have HAW := Lib.hid (show At W w7.heap.size 33 cs from by rw [hW]; exact At.far HAk.out (p := ⟨P2, k, none⟩) (show w7.heap.size ≠ P2 by omega) _)
            have HDW := Lib.hid (show At W P2 33 (ds.setIfInBounds k (.pointer A)) from by rw [hW, hA]; exact HDk.out.set k _)
            have HBW := Lib.hid (show Below v6.heap.size v6 W from by rw [hW]; exact HBk.out.setCell (by show v6.heap.size ≤ P2; omega) _)
            clear hW hA c3 c4 c5 d0 df HPk HBk HAk HDk
            have lB3 := World.block_lt_of_cell? _ _ n3
            have lB4 := World.block_lt_of_cell? _ _ n4
            have lbW := prLt HPW.out
            go_region_held3 (fun w' => w'.cell? ⟨B3, off3 + k, none⟩ = some (.string tx) ∧ w'.cell? ⟨B4, off4 + k, none⟩ = some (.int .u32 f4)) (repeat' (first | (refine And.intro ?_ ?_) | assumption | apply kAlloc | apply kDrew)) ((go_at_call 11; refine (zAdd b b (j + k) ys A tx _ _ _ _ _ W.drew (Nat.le_refl _) (by omega) (show b ≤ _ from Nat.le_of_lt lbW) (show PR W.drew b b (j + k) ys from HPW.out)).mono ?_; rintro e w8 ⟨rfl, hp8, hk8, hb8⟩; have m0 : w8.cell? ⟨B3, off3 + k, none⟩ = some (.string tx) := (hb8.cell (p := ⟨B3, off3 + k, none⟩) (show B3 < b by omega)).trans n3; have m1 : w8.cell? ⟨B4, off4 + k, none⟩ = some (.int .u32 f4) := (hb8.cell (p := ⟨B4, off4 + k, none⟩) (show B4 < b by omega)).trans n4))
            all_goals
              have HP8 := Lib.hid hp8
              have HA8 := Lib.hid (Kp.at hk8 (show At W.drew w7.heap.size 33 _ from HAW.out) (by omega) (by decide))
              have HD8 := Lib.hid (Kp.at hk8 (show At W.drew P2 33 _ from HDW.out) (by omega) (by decide))
              have HB8 := Lib.hid (show Below v6.heap.size v6 w8 from HBW.out.drew.trans (hb8.mono hbV))
              have HR8 := Lib.hid (show ∀ t, t < j → ∃ A1, cs[t]? = some (.pointer A1) ∧ PreF z0 z1 (ys ++ rec1 A tx (-1) 0 (F16 f4) 0 2) t A1 from fun t ht => by
                obtain ⟨A', h1, h2⟩ := HRk.out t ht
                exact ⟨A', h1, recAt.app h2 _⟩)
              have HN8 := Lib.hid (recAt.new (prLen HPW.out) A tx (-1) 0 (F16 f4) 0 2)
              have HL8 := Lib.hid (show ∀ t, t < k + 1 → ∃ A1, (ds.setIfInBounds k (.pointer A))[t]? = some (.pointer A1) ∧ LatF z3 z4 (ys ++ rec1 A tx (-1) 0 (F16 f4) 0 2) j t A1 from fun t ht => by
                by_cases e : t = k
                · subst e
                  exact ⟨A, by simp [HSk.out, hlt2], by have := HN8.out; rw [HTX.out, HF4.out] at this ⊢; exact this⟩
                · obtain ⟨A', h1, h2⟩ := HLk.out t (by omega)
                  exact ⟨A', by rw [Array.getElem?_setIfInBounds_ne (by omega)]; exact h1, recAt.app h2 _⟩)
              have c1 : ((j + k + 1 : Nat) : Int) = (j : Int) + (k : Int) + 1 := by omega
              have lw := HN8.out
              have HT := Lib.hid (fun W (h : PR W b b (j + k + 1) (ys ++ rec1 A tx (-1) 0 (F16 f4) 0 2)) => zText b b (j + k + 1) (j + k) _ tx W h (by omega) (by omega) lw.2.1)
              have HG := Lib.hid (fun W (h : PR W b b (j + k + 1) (ys ++ rec1 A tx (-1) 0 (F16 f4) 0 2)) => zFlags b b (j + k + 1) (j + k) _ (F16 f4) W h (by omega) (by omega) (F16_bd f4).1 (F16_bd f4).2 lw.2.2.2.2.1)
              have HS := Lib.hid (fun W (h : PR W b b (j + k + 1) (ys ++ rec1 A tx (-1) 0 (F16 f4) 0 2)) => zAssert b b (j + k + 1) (j + k) _ A W h (by omega) (by omega) lw.1)
              have HC := Lib.hid (zCount b b (j + k + 1) _ w8 HP8.out)
              simp only [Int.natCast_add] at HT HG HS
              rw [c1] at HC
              clear hp8 hk8 hb8 n3 n4 HPW HAW HDW HBW HRk HLk lw c1
              go_wp2_with fail
              refine HC.out.mono ?_
              rintro e w' ⟨rfl, rfl⟩
              go_wp2_with fail
              go_quiet (first | (go_at_call 13; exact Calls.quiet_of_same ((HT.out _ (show PR (w8.drewN _) b b (j + k + 1) _ from HP8.out)).mono fun _ _ h => ⟨h.1, h.2.symm⟩)) | (go_at_call 14; exact Calls.quiet_of_same ((HG.out _ (show PR (w8.drewN _) b b (j + k + 1) _ from HP8.out)).mono fun _ _ h => ⟨h.1, h.2.symm⟩)) | (go_at_call 15; exact Calls.quiet_of_same ((sFlags f4 (w8.drewN _)).mono fun _ _ h => ⟨h.1, h.2.symm⟩)))
              obtain ⟨w9, hnew⟩ : ∃ W, W = w8.drewN nq := ⟨_, rfl⟩
              have HP9 := Lib.hid (show PR w9 b b (j + k + 1) (ys ++ rec1 A tx (-1) 0 (F16 f4) 0 2) from by rw [hnew]; exact HP8.out)
              have HA9 := Lib.hid (show At w9 w7.heap.size 33 cs from by rw [hnew]; exact HA8.out)
              have HD9 := Lib.hid (show At w9 P2 33 (ds.setIfInBounds k (.pointer A)) from by rw [hnew]; exact HD8.out)
              have HB9 := Lib.hid (show Below v6.heap.size v6 w9 from by rw [hnew]; exact below_drewN HB8.out _)
              rw [← hnew]
              clear hnew HP8 HA8 HD8 HB8 m0 m1
              go_wp2_with fail
              refine (HS.out _ HP9.out).mono ?_
              rintro e w' ⟨rfl, rfl⟩
              go_wp2_with fail
              go_roundw
              case rel => exact ⟨k + 1, _, _, by omega, by go_num, HP9, HA9, HD9, Lib.hid (by simp [HSk.out]), HR8, HL8, HB9⟩
              case measure => simp [intOf]; omega
          · rw [hbb] at c5
            clear hbb
            go_wp2_with fail
            refine (mkAs _).mono ?_
            rintro e w' ⟨rfl, ca, rfl⟩
            have lP : P2 < wr.heap.size := World.block_lt_of_cell? _ _ d0
            go_wp2_with fail
            obtain ⟨A, hA⟩ : ∃ A : Option Addr, A = (some ⟨wr.heap.size, 0, none⟩) := ⟨_, rfl⟩
            obtain ⟨W, hW⟩ : ∃ W, W = (wr.setCell ⟨P2, k, none⟩ (.pointer (some ⟨wr.heap.size, 0, none⟩))).alloc (.cells ca 176) := ⟨_, rfl⟩
            rw [← hW, ← hA]
            have n3 : W.cell? ⟨B3, off3 + k, none⟩ = some (.string tx) := by rw [hW]; exact kAlloc (kSet c3 (by omega))
            have n4 : W.cell? ⟨B4, off4 + k, none⟩ = some (.int .u32 f4) := by rw [hW]; exact kAlloc (kSet c4 (by omega))
            have HPW := Lib.hid (show PR W b b (j + k) ys from by rw [hW]; exact prAlloc (prSet HPk.out HDk.out (by decide) (by omega) _ _) _)
            have HAW := Lib.hid (show At W w7.heap.size 33 cs from by rw [hW]; exact At.alloc (At.far HAk.out (p := ⟨P2, k, none⟩) (show w7.heap.size ≠ P2 by omega) _) _)
            have HDW := Lib.hid (show At W P2 33 (ds.setIfInBounds k (.pointer A)) from by rw [hW, hA]; exact At.alloc (HDk.out.set k _) _)
            have HBW := Lib.hid (show Below v6.heap.size v6 W from by rw [hW]; exact (HBk.out.setCell (by show v6.heap.size ≤ P2; omega) _).alloc (by have := HBk.out.size; simp; omega) _)
            clear hW hA c3 c4 c5 d0 df HPk HBk HAk HDk
            have lB3 := World.block_lt_of_cell? _ _ n3
            have lB4 := World.block_lt_of_cell? _ _ n4
            have lbW := prLt HPW.out
            go_region_held3 (fun w' => w'.cell? ⟨B3, off3 + k, none⟩ = some (.string tx) ∧ w'.cell? ⟨B4, off4 + k, none⟩ = some (.int .u32 f4)) (repeat' (first | (refine And.intro ?_ ?_) | assumption | apply kAlloc | apply kDrew)) ((go_at_call 11; refine (zAdd b b (j + k) ys A tx _ _ _ _ _ W.drew (Nat.le_refl _) (by omega) (show b ≤ _ from Nat.le_of_lt lbW) (show PR W.drew b b (j + k) ys from HPW.out)).mono ?_; rintro e w8 ⟨rfl, hp8, hk8, hb8⟩; have m0 : w8.cell? ⟨B3, off3 + k, none⟩ = some (.string tx) := (hb8.cell (p := ⟨B3, off3 + k, none⟩) (show B3 < b by omega)).trans n3; have m1 : w8.cell? ⟨B4, off4 + k, none⟩ = some (.int .u32 f4) := (hb8.cell (p := ⟨B4, off4 + k, none⟩) (show B4 < b by omega)).trans n4))
            all_goals
              have HP8 := Lib.hid hp8
              have HA8 := Lib.hid (Kp.at hk8 (show At W.drew w7.heap.size 33 _ from HAW.out) (by omega) (by decide))
              have HD8 := Lib.hid (Kp.at hk8 (show At W.drew P2 33 _ from HDW.out) (by omega) (by decide))
              have HB8 := Lib.hid (show Below v6.heap.size v6 w8 from HBW.out.drew.trans (hb8.mono hbV))
              have HR8 := Lib.hid (show ∀ t, t < j → ∃ A1, cs[t]? = some (.pointer A1) ∧ PreF z0 z1 (ys ++ rec1 A tx (-1) 0 (F16 f4) 0 2) t A1 from fun t ht => by
                obtain ⟨A', h1, h2⟩ := HRk.out t ht
                exact ⟨A', h1, recAt.app h2 _⟩)
              have HN8 := Lib.hid (recAt.new (prLen HPW.out) A tx (-1) 0 (F16 f4) 0 2)
              have HL8 := Lib.hid (show ∀ t, t < k + 1 → ∃ A1, (ds.setIfInBounds k (.pointer A))[t]? = some (.pointer A1) ∧ LatF z3 z4 (ys ++ rec1 A tx (-1) 0 (F16 f4) 0 2) j t A1 from fun t ht => by
                by_cases e : t = k
                · subst e
                  exact ⟨A, by simp [HSk.out, hlt2], by have := HN8.out; rw [HTX.out, HF4.out] at this ⊢; exact this⟩
                · obtain ⟨A', h1, h2⟩ := HLk.out t (by omega)
                  exact ⟨A', by rw [Array.getElem?_setIfInBounds_ne (by omega)]; exact h1, recAt.app h2 _⟩)
              have c1 : ((j + k + 1 : Nat) : Int) = (j : Int) + (k : Int) + 1 := by omega
              have lw := HN8.out
              have HT := Lib.hid (fun W (h : PR W b b (j + k + 1) (ys ++ rec1 A tx (-1) 0 (F16 f4) 0 2)) => zText b b (j + k + 1) (j + k) _ tx W h (by omega) (by omega) lw.2.1)
              have HG := Lib.hid (fun W (h : PR W b b (j + k + 1) (ys ++ rec1 A tx (-1) 0 (F16 f4) 0 2)) => zFlags b b (j + k + 1) (j + k) _ (F16 f4) W h (by omega) (by omega) (F16_bd f4).1 (F16_bd f4).2 lw.2.2.2.2.1)
              have HS := Lib.hid (fun W (h : PR W b b (j + k + 1) (ys ++ rec1 A tx (-1) 0 (F16 f4) 0 2)) => zAssert b b (j + k + 1) (j + k) _ A W h (by omega) (by omega) lw.1)
              have HC := Lib.hid (zCount b b (j + k + 1) _ w8 HP8.out)
              simp only [Int.natCast_add] at HT HG HS
              rw [c1] at HC
              clear hp8 hk8 hb8 n3 n4 HPW HAW HDW HBW HRk HLk lw c1
              go_wp2_with fail
              refine HC.out.mono ?_
              rintro e w' ⟨rfl, rfl⟩
              go_wp2_with fail
              go_quiet (first | (go_at_call 13; exact Calls.quiet_of_same ((HT.out _ (show PR (w8.drewN _) b b (j + k + 1) _ from HP8.out)).mono fun _ _ h => ⟨h.1, h.2.symm⟩)) | (go_at_call 14; exact Calls.quiet_of_same ((HG.out _ (show PR (w8.drewN _) b b (j + k + 1) _ from HP8.out)).mono fun _ _ h => ⟨h.1, h.2.symm⟩)) | (go_at_call 15; exact Calls.quiet_of_same ((sFlags f4 (w8.drewN _)).mono fun _ _ h => ⟨h.1, h.2.symm⟩)))
              obtain ⟨w9, hnew⟩ : ∃ W, W = w8.drewN nq := ⟨_, rfl⟩
              have HP9 := Lib.hid (show PR w9 b b (j + k + 1) (ys ++ rec1 A tx (-1) 0 (F16 f4) 0 2) from by rw [hnew]; exact HP8.out)
              have HA9 := Lib.hid (show At w9 w7.heap.size 33 cs from by rw [hnew]; exact HA8.out)
              have HD9 := Lib.hid (show At w9 P2 33 (ds.setIfInBounds k (.pointer A)) from by rw [hnew]; exact HD8.out)
              have HB9 := Lib.hid (show Below v6.heap.size v6 w9 from by rw [hnew]; exact below_drewN HB8.out _)
              rw [← hnew]
              clear hnew HP8 HA8 HD8 HB8 m0 m1
              go_wp2_with fail
              refine (HS.out _ HP9.out).mono ?_
              rintro e w' ⟨rfl, rfl⟩
              go_wp2_with fail
              go_roundw
              case rel => exact ⟨k + 1, _, _, by omega, by go_num, HP9, HA9, HD9, Lib.hid (by simp [HSk.out]), HR8, HL8, HB9⟩
              case measure => simp [intOf]; omega
        · have ek : k = n := by omega
          subst ek
          have e9 : decide (k < k) = false := by simp
          go_wp2_with fail
          clear e9
          go_loopw [25] (fun i wq => LR3 v6 b w7.heap.size P2 (j + k) j ys cs ds i wq) (fun i _ => j - (intOf i).toNat)
          case atStart => exact ⟨0, by omega, rfl, HPk, HAk, HDk, HBk⟩
          case round =>
            clear HPk HAk HDk HBk
            obtain ⟨t, ht, rfl, HPt, HAt, HDt, HBt⟩ := hrel
            by_cases hlt3 : t < j
            · obtain ⟨A, hA1, hrec⟩ := HRk.out t (by omega)
              unfold PreF at hrec
              obtain ⟨B0, off0, ec0, hc0⟩ := (RowV.below R0.out HBt.out) (by omega)
              have c0 : wr.cell? ⟨B0, off0 + t, none⟩ = some (.string (sAt z0 t)) := hc0 t (by omega)
              obtain ⟨B1, off1, ec1, hc1⟩ := (RowV.below R1.out HBt.out) (by omega)
              have c1 : wr.cell? ⟨B1, off1 + t, none⟩ = some (.int .u32 (z1.getD t 0)) := hc1 t (by omega)
              clear hc0 hc1
              subst ec0 ec1
              have d0 : wr.cell? ⟨w7.heap.size, t, none⟩ = some (.pointer A) := by rw [HAt.out.cell t]; exact hA1
              have ht0 : (0 : Int) ≤ (t : Int) := Int.natCast_nonneg _
              have ht1 : (t : Int) < (j : Int) := by omega
              have ht2 : (t : Int) < (len0 : Int) := by omega
              have ht3 : (t : Int) < (len1 : Int) := by omega
              obtain ⟨tx, htx⟩ : ∃ tx, tx = sAt z0 t := ⟨_, rfl⟩
              obtain ⟨fl, hfl⟩ : ∃ f, f = z1.getD t 0 := ⟨_, rfl⟩
              rw [← htx] at c0 hrec
              rw [← hfl] at c1 hrec
              clear htx hfl hA1
              have HK := Lib.hid (fun W (h : PR W b b (j + k) ys) => zKind b b (j + k) t ys _ W h (by omega) (by omega) hrec.2.2.2.2.2.2)
              have HH := Lib.hid (fun W (h : PR W b b (j + k) ys) => zPhase b b (j + k) t ys _ W h (by omega) (by omega) hrec.2.2.2.2.2.1)
              have HS := Lib.hid (fun W (h : PR W b b (j + k) ys) => zStart b b (j + k) t ys _ W h (by omega) (by omega) hrec.2.2.1)
              have HL := Lib.hid (fun W (h : PR W b b (j + k) ys) => zLen b b (j + k) t ys _ W h (by omega) (by omega) hrec.2.2.2.1)
              have HT := Lib.hid (fun W (h : PR W b b (j + k) ys) => zText b b (j + k) t ys tx W h (by omega) (by omega) hrec.2.1)
              have HA := Lib.hid (fun W (h : PR W b b (j + k) ys) => zAssert b b (j + k) t ys A W h (by omega) (by omega) hrec.1)
              have HG := Lib.hid (fun W (h : PR W b b (j + k) ys) => zFlags b b (j + k) t ys (F16 fl) W h (by omega) (by omega) (F16_bd fl).1 (F16_bd fl).2 hrec.2.2.2.2.1)
              clear hrec
              go_wp2_with fail
              refine (HK.out _ HPt.out).mono ?_
              rintro e w' ⟨rfl, rfl⟩
              go_wp2_with fail
              refine (sKind _ _).mono ?_
              rintro e w' ⟨rfl, rfl⟩
              go_wp2_with fail
              refine (HH.out _ HPt.out).mono ?_
              rintro e w' ⟨rfl, rfl⟩
              go_wp2_with fail
              refine (sPhase _ _).mono ?_
              rintro e w' ⟨rfl, rfl⟩
              go_wp2_with fail
              go_quiet (first | (go_at_call 21; exact Calls.quiet_of_same ((HS.out _ (show PR (wr.drewN _) b b (j + k) ys from HPt.out)).mono fun _ _ h => ⟨h.1, h.2.symm⟩)) | (go_at_call 22; exact Calls.quiet_of_same ((HL.out _ (show PR (wr.drewN _) b b (j + k) ys from HPt.out)).mono fun _ _ h => ⟨h.1, h.2.symm⟩)))
              obtain ⟨wa, hnew⟩ : ∃ W, W = wr.drewN nq := ⟨_, rfl⟩
              have HPt' := Lib.hid (show PR wa b b (j + k) ys from by rw [hnew]; exact HPt.out)
              have HAt' := Lib.hid (show At wa w7.heap.size 33 cs from by rw [hnew]; exact HAt.out)
              have HDt' := Lib.hid (show At wa P2 33 ds from by rw [hnew]; exact HDt.out)
              have HBt' := Lib.hid (show Below v6.heap.size v6 wa from by rw [hnew]; exact below_drewN HBt.out _)
              have c0' : wa.cell? ⟨B0, off0 + t, none⟩ = some (.string tx) := by rw [hnew]; exact c0
              have c1' : wa.cell? ⟨B1, off1 + t, none⟩ = some (.int .u32 fl) := by rw [hnew]; exact c1
              have d0' : wa.cell? ⟨w7.heap.size, t, none⟩ = some (.pointer A) := by rw [hnew]; exact d0
              rw [← hnew]
              clear hnew HPt HAt HDt HBt c0 c1 d0
              have HPt := HPt'
              have HAt := HAt'
              have HDt := HDt'
              have HBt := HBt'
              have c0 := c0'
              have c1 := c1'
              have d0 := d0'
              clear HPt' HAt' HDt' HBt' c0' c1' d0'
              go_wp2_with fail
              go_quiet (first | (go_at_call 13; exact Calls.quiet_of_same ((HT.out _ (show PR (wa.drewN _) b b (j + k) ys from HPt.out)).mono fun _ _ h => ⟨h.1, h.2.symm⟩)) | (go_at_call 14; exact Calls.quiet_of_same ((HG.out _ (show PR (wa.drewN _) b b (j + k) ys from HPt.out)).mono fun _ _ h => ⟨h.1, h.2.symm⟩)) | (go_at_call 15; exact Calls.quiet_of_same ((sFlags fl (wa.drewN _)).mono fun _ _ h => ⟨h.1, h.2.symm⟩)))
              obtain ⟨wb, hnew⟩ : ∃ W, W = wa.drewN nq := ⟨_, rfl⟩
              have HPt' := Lib.hid (show PR wb b b (j + k) ys from by rw [hnew]; exact HPt.out)
              have HAt' := Lib.hid (show At wb w7.heap.size 33 cs from by rw [hnew]; exact HAt.out)
              have HDt' := Lib.hid (show At wb P2 33 ds from by rw [hnew]; exact HDt.out)
              have HBt' := Lib.hid (show Below v6.heap.size v6 wb from by rw [hnew]; exact below_drewN HBt.out _)
              have c0' : wb.cell? ⟨B0, off0 + t, none⟩ = some (.string tx) := by rw [hnew]; exact c0
              have c1' : wb.cell? ⟨B1, off1 + t, none⟩ = some (.int .u32 fl) := by rw [hnew]; exact c1
              have d0' : wb.cell? ⟨w7.heap.size, t, none⟩ = some (.pointer A) := by rw [hnew]; exact d0
              rw [← hnew]
              clear hnew HPt HAt HDt HBt c0 c1 d0
              have HPt := HPt'
              have HAt := HAt'
              have HDt := HDt'
              have HBt := HBt'
              have c0 := c0'
              have c1 := c1'
              have d0 := d0'
              clear HPt' HAt' HDt' HBt' c0' c1' d0'
              go_wp2_with fail
              go_quiet ((go_at_call 16; exact Calls.quiet_of_same ((HA.out _ (show PR (wb.drewN _) b b (j + k) ys from HPt.out)).mono fun _ _ h => ⟨h.1, h.2.symm⟩)))
              obtain ⟨wc, hnew⟩ : ∃ W, W = wb.drewN nq := ⟨_, rfl⟩
              have HPt' := Lib.hid (show PR wc b b (j + k) ys from by rw [hnew]; exact HPt.out)
              have HAt' := Lib.hid (show At wc w7.heap.size 33 cs from by rw [hnew]; exact HAt.out)
              have HDt' := Lib.hid (show At wc P2 33 ds from by rw [hnew]; exact HDt.out)
              have HBt' := Lib.hid (show Below v6.heap.size v6 wc from by rw [hnew]; exact below_drewN HBt.out _)
              have c0' : wc.cell? ⟨B0, off0 + t, none⟩ = some (.string tx) := by rw [hnew]; exact c0
              have c1' : wc.cell? ⟨B1, off1 + t, none⟩ = some (.int .u32 fl) := by rw [hnew]; exact c1
              have d0' : wc.cell? ⟨w7.heap.size, t, none⟩ = some (.pointer A) := by rw [hnew]; exact d0
              rw [← hnew]
              clear hnew HPt HAt HDt HBt c0 c1 d0
              have HPt := HPt'
              have HAt := HAt'
              have HDt := HDt'
              have HBt := HBt'
              have c0 := c0'
              have c1 := c1'
              have d0 := d0'
              clear HPt' HAt' HDt' HBt' c0' c1' d0'
              go_wp2_with fail
              go_roundw
              case rel => exact ⟨t + 1, by omega, by go_num, HPt, HAt, HDt, HBt⟩
              case measure => simp [intOf]; omega
            · have et : t = j := by omega
              subst et
              have e9 : decide (t < t) = false := by simp
              go_wp2_with fail
              clear e9
              obtain ⟨j, rfl⟩ : ∃ j, j = t := ⟨_, rfl⟩
              go_loopw [26] (fun i wq => LR3 v6 b w7.heap.size P2 (j + k) k ys cs ds i wq) (fun i _ => k - (intOf i).toNat)
              case atStart => exact ⟨0, by omega, rfl, HPt, HAt, HDt, HBt⟩
              case round =>
                clear HPt HAt HDt HBt
                obtain ⟨t, ht, rfl, HPt, HAt, HDt, HBt⟩ := hrel
                by_cases hlt4 : t < k
                · obtain ⟨A, hA1, hrec⟩ := HLk.out t (by omega)
                  unfold LatF at hrec
                  obtain ⟨B3, off3, ec0, hc0⟩ := (RowV.below R3.out HBt.out) (by omega)
                  have c0 : wr.cell? ⟨B3, off3 + t, none⟩ = some (.string (sAt z3 t)) := hc0 t (by omega)
                  obtain ⟨B4, off4, ec1, hc1⟩ := (RowV.below R4.out HBt.out) (by omega)
                  have c1 : wr.cell? ⟨B4, off4 + t, none⟩ = some (.int .u32 (z4.getD t 0)) := hc1 t (by omega)
                  clear hc0 hc1
                  subst ec0 ec1
                  have d0 : wr.cell? ⟨P2, t, none⟩ = some (.pointer A) := by rw [HDt.out.cell t]; exact hA1
                  have ht0 : (0 : Int) ≤ (t : Int) := Int.natCast_nonneg _
                  have ht1 : (t : Int) < (k : Int) := by omega
                  have ht2 : (t : Int) < (len3 : Int) := by omega
                  have ht3 : (t : Int) < (len4 : Int) := by omega
                  obtain ⟨tx, htx⟩ : ∃ tx, tx = sAt z3 t := ⟨_, rfl⟩
                  obtain ⟨fl, hfl⟩ : ∃ f, f = z4.getD t 0 := ⟨_, rfl⟩
                  rw [← htx] at c0 hrec
                  rw [← hfl] at c1 hrec
                  clear htx hfl hA1
                  have HK := Lib.hid (fun W (h : PR W b b (j + k) ys) => zKind b b (j + k) (j + t) ys _ W h (by omega) (by omega) hrec.2.2.2.2.2.2)
                  have HH := Lib.hid (fun W (h : PR W b b (j + k) ys) => zPhase b b (j + k) (j + t) ys _ W h (by omega) (by omega) hrec.2.2.2.2.2.1)
                  have HS := Lib.hid (fun W (h : PR W b b (j + k) ys) => zStart b b (j + k) (j + t) ys _ W h (by omega) (by omega) hrec.2.2.1)
                  have HL := Lib.hid (fun W (h : PR W b b (j + k) ys) => zLen b b (j + k) (j + t) ys _ W h (by omega) (by omega) hrec.2.2.2.1)
                  have HT := Lib.hid (fun W (h : PR W b b (j + k) ys) => zText b b (j + k) (j + t) ys tx W h (by omega) (by omega) hrec.2.1)
                  have HA := Lib.hid (fun W (h : PR W b b (j + k) ys) => zAssert b b (j + k) (j + t) ys A W h (by omega) (by omega) hrec.1)
                  have HG := Lib.hid (fun W (h : PR W b b (j + k) ys) => zFlags b b (j + k) (j + t) ys (F16 fl) W h (by omega) (by omega) (F16_bd fl).1 (F16_bd fl).2 hrec.2.2.2.2.1)
                  simp only [Int.natCast_add] at HK HH HS HL HT HA HG
                  clear hrec
                  go_wp2_with fail
                  refine (HK.out _ HPt.out).mono ?_
                  rintro e w' ⟨rfl, rfl⟩
                  go_wp2_with fail
                  refine (sKind _ _).mono ?_
                  rintro e w' ⟨rfl, rfl⟩
                  go_wp2_with fail
                  refine (HH.out _ HPt.out).mono ?_
                  rintro e w' ⟨rfl, rfl⟩
                  go_wp2_with fail
                  refine (sPhase _ _).mono ?_
                  rintro e w' ⟨rfl, rfl⟩
                  go_wp2_with fail
                  refine (HS.out _ HPt.out).mono ?_
                  rintro e w' ⟨rfl, rfl⟩
                  go_wp2_with fail
                  refine (HL.out _ HPt.out).mono ?_
                  rintro e w' ⟨rfl, rfl⟩
                  go_wp2_with fail
                  go_quiet (first | (go_at_call 13; exact Calls.quiet_of_same ((HT.out _ (show PR (wr.drewN _) b b (j + k) ys from HPt.out)).mono fun _ _ h => ⟨h.1, h.2.symm⟩)) | (go_at_call 14; exact Calls.quiet_of_same ((HG.out _ (show PR (wr.drewN _) b b (j + k) ys from HPt.out)).mono fun _ _ h => ⟨h.1, h.2.symm⟩)) | (go_at_call 15; exact Calls.quiet_of_same ((sFlags fl (wr.drewN _)).mono fun _ _ h => ⟨h.1, h.2.symm⟩)))
                  obtain ⟨wb, hnew⟩ : ∃ W, W = wr.drewN nq := ⟨_, rfl⟩
                  have HPt' := Lib.hid (show PR wb b b (j + k) ys from by rw [hnew]; exact HPt.out)
                  have HAt' := Lib.hid (show At wb w7.heap.size 33 cs from by rw [hnew]; exact HAt.out)
                  have HDt' := Lib.hid (show At wb P2 33 ds from by rw [hnew]; exact HDt.out)
                  have HBt' := Lib.hid (show Below v6.heap.size v6 wb from by rw [hnew]; exact below_drewN HBt.out _)
                  have c0' : wb.cell? ⟨B3, off3 + t, none⟩ = some (.string tx) := by rw [hnew]; exact c0
                  have c1' : wb.cell? ⟨B4, off4 + t, none⟩ = some (.int .u32 fl) := by rw [hnew]; exact c1
                  have d0' : wb.cell? ⟨P2, t, none⟩ = some (.pointer A) := by rw [hnew]; exact d0
                  rw [← hnew]
                  clear hnew HPt HAt HDt HBt c0 c1 d0
                  have HPt := HPt'
                  have HAt := HAt'
                  have HDt := HDt'
                  have HBt := HBt'
                  have c0 := c0'
                  have c1 := c1'
                  have d0 := d0'
                  clear HPt' HAt' HDt' HBt' c0' c1' d0'
                  go_wp2_with fail
                  go_quiet ((go_at_call 16; exact Calls.quiet_of_same ((HA.out _ (show PR (wb.drewN _) b b (j + k) ys from HPt.out)).mono fun _ _ h => ⟨h.1, h.2.symm⟩)))
                  obtain ⟨wc, hnew⟩ : ∃ W, W = wb.drewN nq := ⟨_, rfl⟩
                  have HPt' := Lib.hid (show PR wc b b (j + k) ys from by rw [hnew]; exact HPt.out)
                  have HAt' := Lib.hid (show At wc w7.heap.size 33 cs from by rw [hnew]; exact HAt.out)
                  have HDt' := Lib.hid (show At wc P2 33 ds from by rw [hnew]; exact HDt.out)
                  have HBt' := Lib.hid (show Below v6.heap.size v6 wc from by rw [hnew]; exact below_drewN HBt.out _)
                  have c0' : wc.cell? ⟨B3, off3 + t, none⟩ = some (.string tx) := by rw [hnew]; exact c0
                  have c1' : wc.cell? ⟨B4, off4 + t, none⟩ = some (.int .u32 fl) := by rw [hnew]; exact c1
                  have d0' : wc.cell? ⟨P2, t, none⟩ = some (.pointer A) := by rw [hnew]; exact d0
                  rw [← hnew]
                  clear hnew HPt HAt HDt HBt c0 c1 d0
                  have HPt := HPt'
                  have HAt := HAt'
                  have HDt := HDt'
                  have HBt := HBt'
                  have c0 := c0'
                  have c1 := c1'
                  have d0 := d0'
                  clear HPt' HAt' HDt' HBt' c0' c1' d0'
                  go_wp2_with fail
                  go_roundw
                  case rel => exact ⟨t + 1, by omega, by go_num, HPt, HAt, HDt, HBt⟩
                  case measure => simp [intOf]; omega
                · have et : t = k := by omega
                  subst et
                  have e9 : decide (t < t) = false := by simp
                  have q2 : (((j + t : Nat) : Int) == (j : Int) + (t : Int)) = true := by simp
                  have HC := Lib.hid (zCount b b (j + t) ys wr HPt.out)
                  go_wp2_with fail
                  refine HC.out.mono ?_
                  rintro e w' ⟨rfl, rfl⟩
                  go_wp2_with fail
                  go_ret
                  exact ⟨rfl, bel2 VB.out HBt.out⟩

set_option maxRecDepth 100000 in
set_option maxHeartbeats 4000000 in
theorem big (a0 : Option Addr) (len0 cap0 : Nat) (a1 : Option Addr) (len1 cap1 : Nat) (a2 : Option Addr) (len2 cap2 : Nat) (a3 : Option Addr) (len3 cap3 : Nat) (a4 : Option Addr) (len4 cap4 : Nat) (a5 : Option Addr) (len5 cap5 : Nat) (w : World)
    (H4 : Calls Try.prog 4 #[.slice a0 len0 cap0, .slice a1 len1 cap1, .slice a2 len2 cap2, .slice a3 len3 cap3, .slice a4 len4 cap4, .slice a5 len5 cap5] w (SomeBool w)) (H5 : Calls Try.prog 5 #[.slice a0 len0 cap0, .slice a1 len1 cap1, .slice a2 len2 cap2, .slice a3 len3 cap3, .slice a4 len4 cap4, .slice a5 len5 cap5] w (Is (.int .i64 1048577) w)) :
    Calls Try.prog 3 #[.slice a0 len0 cap0, .slice a1 len1 cap1, .slice a2 len2 cap2, .slice a3 len3 cap3, .slice a4 len4 cap4, .slice a5 len5 cap5] w fun e w' => e = .returned (.bool true) ∧ Below w.heap.size w w' := by
  have G4 := Lib.hid H4
  have G5 := Lib.hid H5
  clear H4 H5
  go_enter Try.func3, Try.ntmps3
  go_wp2_with fail
  refine G4.out.mono ?_
  rintro e w' ⟨b, rfl, rfl⟩
  cases b
  · go_wp2_with fail
    go_ret
    exact ⟨rfl, Below.refl _ _⟩
  go_wp2_with fail
  refine G5.out.mono ?_
  rintro e w' ⟨rfl, rfl⟩
  go_wp2_with fail
  go_ret
  exact ⟨rfl, Below.refl _ _⟩
theorem walk (a0 : Option Addr) (len0 cap0 : Nat) (z0 : List ByteArray) (a1 : Option Addr) (len1 cap1 : Nat) (z1 : List Int) (a2 : Option Addr) (len2 cap2 : Nat) (z2 : List Bool) (a3 : Option Addr) (len3 cap3 : Nat) (z3 : List ByteArray) (a4 : Option Addr) (len4 cap4 : Nat) (z4 : List Int) (a5 : Option Addr) (len5 cap5 : Nat) (z5 : List Bool) (w : World) (w0 : IsStrs w a0 len0 cap0 z0) (w1 : IsRow .u32 w a1 len1 cap1 z1) (w2 : IsBools w a2 len2 cap2 z2) (w3 : IsStrs w a3 len3 cap3 z3) (w4 : IsRow .u32 w a4 len4 cap4 z4) (w5 : IsBools w a5 len5 cap5 z5) :
    Calls Try.prog 3 #[.slice a0 len0 cap0, .slice a1 len1 cap1, .slice a2 len2 cap2, .slice a3 len3 cap3, .slice a4 len4 cap4, .slice a5 len5 cap5] w fun e w' => e = .returned (.bool true) ∧ Below w.heap.size w w' := by
  by_cases l0 : len0 ≤ 1048576
  case neg => exact big a0 len0 cap0 a1 len1 cap1 a2 len2 cap2 a3 len3 cap3 a4 len4 cap4 a5 len5 cap5 w (b4 a0 len0 cap0 z0 a1 len1 cap1 a2 len2 cap2 a3 len3 cap3 z3 a4 len4 cap4 a5 len5 cap5 w (rowv_strs w0) (rowv_strs w3) (fun i => (len_strs w0).2 i) (fun i => (len_strs w3).2 i) (len_strs w0).1 (len_ints w1).1 (len_bools w2) (len_strs w3).1 (len_ints w4).1 (len_bools w5)) (i5_b0 a0 len0 cap0 z0 a1 len1 cap1 a2 len2 cap2 a3 len3 cap3 z3 a4 len4 cap4 a5 len5 cap5 w  (by omega) (len_strs w0).1)
  by_cases l1 : len1 ≤ 1048576
  case neg => exact big a0 len0 cap0 a1 len1 cap1 a2 len2 cap2 a3 len3 cap3 a4 len4 cap4 a5 len5 cap5 w (b4 a0 len0 cap0 z0 a1 len1 cap1 a2 len2 cap2 a3 len3 cap3 z3 a4 len4 cap4 a5 len5 cap5 w (rowv_strs w0) (rowv_strs w3) (fun i => (len_strs w0).2 i) (fun i => (len_strs w3).2 i) (len_strs w0).1 (len_ints w1).1 (len_bools w2) (len_strs w3).1 (len_ints w4).1 (len_bools w5)) (i5_b1 a0 len0 cap0 z0 a1 len1 cap1 a2 len2 cap2 a3 len3 cap3 z3 a4 len4 cap4 a5 len5 cap5 w l0 (by omega) (len_ints w1).1)
  by_cases l2 : len2 ≤ 1048576
  case neg => exact big a0 len0 cap0 a1 len1 cap1 a2 len2 cap2 a3 len3 cap3 a4 len4 cap4 a5 len5 cap5 w (b4 a0 len0 cap0 z0 a1 len1 cap1 a2 len2 cap2 a3 len3 cap3 z3 a4 len4 cap4 a5 len5 cap5 w (rowv_strs w0) (rowv_strs w3) (fun i => (len_strs w0).2 i) (fun i => (len_strs w3).2 i) (len_strs w0).1 (len_ints w1).1 (len_bools w2) (len_strs w3).1 (len_ints w4).1 (len_bools w5)) (i5_b2 a0 len0 cap0 z0 a1 len1 cap1 a2 len2 cap2 a3 len3 cap3 z3 a4 len4 cap4 a5 len5 cap5 w l0 l1 (by omega) (len_bools w2))
  by_cases l3 : len3 ≤ 1048576
  case neg => exact big a0 len0 cap0 a1 len1 cap1 a2 len2 cap2 a3 len3 cap3 a4 len4 cap4 a5 len5 cap5 w (b4 a0 len0 cap0 z0 a1 len1 cap1 a2 len2 cap2 a3 len3 cap3 z3 a4 len4 cap4 a5 len5 cap5 w (rowv_strs w0) (rowv_strs w3) (fun i => (len_strs w0).2 i) (fun i => (len_strs w3).2 i) (len_strs w0).1 (len_ints w1).1 (len_bools w2) (len_strs w3).1 (len_ints w4).1 (len_bools w5)) (i5_b3 a0 len0 cap0 z0 a1 len1 cap1 a2 len2 cap2 a3 len3 cap3 z3 a4 len4 cap4 a5 len5 cap5 w l0 l1 l2 (by omega) (len_strs w3).1)
  by_cases l4 : len4 ≤ 1048576
  case neg => exact big a0 len0 cap0 a1 len1 cap1 a2 len2 cap2 a3 len3 cap3 a4 len4 cap4 a5 len5 cap5 w (b4 a0 len0 cap0 z0 a1 len1 cap1 a2 len2 cap2 a3 len3 cap3 z3 a4 len4 cap4 a5 len5 cap5 w (rowv_strs w0) (rowv_strs w3) (fun i => (len_strs w0).2 i) (fun i => (len_strs w3).2 i) (len_strs w0).1 (len_ints w1).1 (len_bools w2) (len_strs w3).1 (len_ints w4).1 (len_bools w5)) (i5_b4 a0 len0 cap0 z0 a1 len1 cap1 a2 len2 cap2 a3 len3 cap3 z3 a4 len4 cap4 a5 len5 cap5 w l0 l1 l2 l3 (by omega) (len_ints w4).1)
  by_cases l5 : len5 ≤ 1048576
  case neg => exact big a0 len0 cap0 a1 len1 cap1 a2 len2 cap2 a3 len3 cap3 a4 len4 cap4 a5 len5 cap5 w (b4 a0 len0 cap0 z0 a1 len1 cap1 a2 len2 cap2 a3 len3 cap3 z3 a4 len4 cap4 a5 len5 cap5 w (rowv_strs w0) (rowv_strs w3) (fun i => (len_strs w0).2 i) (fun i => (len_strs w3).2 i) (len_strs w0).1 (len_ints w1).1 (len_bools w2) (len_strs w3).1 (len_ints w4).1 (len_bools w5)) (i5_b5 a0 len0 cap0 z0 a1 len1 cap1 a2 len2 cap2 a3 len3 cap3 z3 a4 len4 cap4 a5 len5 cap5 w l0 l1 l2 l3 l4 (by omega) (len_bools w5))
  exact main a0 len0 cap0 z0 a1 len1 cap1 z1 a2 len2 cap2 z2 a3 len3 cap3 z3 a4 len4 cap4 z4 a5 len5 cap5 z5 w w0 w1 w2 w3 w4 w5 l0 l1 l2 l3 l4 l5
end Go.Proofs.Ythgcchgpplblbaa.fnAddImportRecordIndexContinuesFromCount
