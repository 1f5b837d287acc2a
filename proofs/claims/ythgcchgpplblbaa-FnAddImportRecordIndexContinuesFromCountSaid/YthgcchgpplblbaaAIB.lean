/- Proved here: contracts of the law's readers and makers of import records, and of its copies. Conditions as stated. -/
import Derived.Test.YthgcchgpplblbaaAIA
import Derived.WalkKit
import Derived.WalkSpells
import Derived.WalkLawsBesides
import Derived.Lib.Hide
import Derived.Lib.SliceRun
import Derived.Deep.RegionWith
import Derived.OwnWalk
import Derived.Laws.OwnMore
namespace Go.Proofs.Ythgcchgpplblbaa
open Go.RowKit
set_option linter.unusedSimpArgs false
set_option linter.unusedVariables false

/-- A slice that reads as f at each index below len; nil where len is 0 is let in. -/
def RowV (w : World) (a : Option Addr) (len : Nat) (f : Nat → Value) : Prop :=
  0 < len → ∃ B off, a = some ⟨B, off, none⟩ ∧ ∀ i, i < len → w.cell? ⟨B, off + i, none⟩ = some (f i)
theorem RowV.below {w w' : World} {a : Option Addr} {len : Nat} {f : Nat → Value} (h : RowV w a len f) (hb : Below w.heap.size w w') : RowV w' a len f := fun hp => by
  obtain ⟨B, off, e, hc⟩ := h hp
  exact ⟨B, off, e, fun i hi => kept hb (hc i hi)⟩
def ClonedV (len : Nat) (f : Nat → Value) (w : World) (e : Ending) (w' : World) : Prop :=
  ∃ a' cap', e = .returned (.slice a' len cap') ∧ RowV w' a' len f ∧ Below w.heap.size w w'
theorem rowv_ints {k : IntKind} {w : World} {a : Option Addr} {len cap : Nat} {zs : List Int} (h : IsRow k w a len cap zs) : RowV w a len (fun i => .int k (zs.getD i 0)) := by
  intro hp
  rcases h with ⟨_, rfl, _⟩ | ⟨x, rfl, hl, hm, hz, hcell, _⟩
  · omega
  · obtain ⟨b, off, rfl⟩ := spot_none (hcell 0 (by omega))
    exact ⟨b, off, rfl, fun i hi => by rw [← add_none]; exact hcell i (by omega)⟩
theorem rowv_bools {w : World} {a : Option Addr} {len cap : Nat} {zs : List Bool} (h : IsBools w a len cap zs) : RowV w a len (fun i => .bool (zs.getD i false)) := by
  intro hp
  rcases h with ⟨_, rfl, _⟩ | ⟨x, rfl, hl, hm, hz, hcell⟩
  · omega
  · obtain ⟨b, off, rfl⟩ := spot_none (hcell 0 (by omega))
    exact ⟨b, off, rfl, fun i hi => by rw [← add_none]; exact hcell i (by omega)⟩
theorem rowv_strs {w : World} {a : Option Addr} {len cap : Nat} {zs : List ByteArray} (h : IsStrs w a len cap zs) : RowV w a len (fun i => .string (zs.getD i ByteArray.empty)) := by
  intro hp
  rcases h with ⟨_, rfl, _⟩ | ⟨x, rfl, hl, hm, hz, hcell, _⟩
  · omega
  · obtain ⟨b, off, rfl⟩ := spot_none (hcell 0 (by omega))
    exact ⟨b, off, rfl, fun i hi => by rw [← add_none]; exact hcell i (by omega)⟩
theorem len_ints {k : IntKind} {w : World} {a : Option Addr} {len cap : Nat} {zs : List Int} (h : IsRow k w a len cap zs) : len ≤ maxLen ∧ len ≤ zs.length ∧ ∀ i, (Lit.int k (zs.getD i 0)).wf = true ∨ zs.length ≤ i := by
  rcases h with ⟨_, rfl, _, rfl⟩ | ⟨x, rfl, hl, hm, hz, hcell, hw⟩
  · exact ⟨by unfold maxLen; omega, by simp, fun i => .inr (by simp)⟩
  · refine ⟨by omega, by omega, fun i => ?_⟩
    by_cases hi : i < zs.length
    · left; exact hw _ (by simp [List.getD, hi])
    · right; omega
theorem len_bools {w : World} {a : Option Addr} {len cap : Nat} {zs : List Bool} (h : IsBools w a len cap zs) : len ≤ maxLen := by
  rcases h with ⟨_, rfl, _, rfl⟩ | ⟨x, rfl, hl, hm, hz, hcell⟩
  · unfold maxLen; omega
  · omega
theorem len_strs {w : World} {a : Option Addr} {len cap : Nat} {zs : List ByteArray} (h : IsStrs w a len cap zs) : len ≤ maxLen ∧ ∀ i, (zs.getD i ByteArray.empty).size ≤ maxLen := by
  rcases h with ⟨_, rfl, _, rfl⟩ | ⟨x, rfl, hl, hm, hz, hcell, hw⟩
  · exact ⟨by unfold maxLen; omega, fun i => by simp⟩
  · refine ⟨by omega, fun i => ?_⟩
    by_cases hi : i < zs.length
    · exact hw _ (by simp [List.getD, hi])
    · simp [List.getD, hi]

/-- What the copy 'cpS' hands back of a slice that is not nil. -/
def cpSPost (len : Nat) (zs : List ByteArray) (w : World) (e : Ending) (w' : World) : Prop :=
  ∃ cs, e = .returned (.slice (some ⟨w.heap.size, 0, none⟩) len len) ∧ At w' w.heap.size 9 cs ∧ cs.size = len ∧ (∀ i, i < len → cs[i]? = some (.string (zs.getD i ByteArray.empty))) ∧ Below w.heap.size w w'
def cpSRel (len : Nat) (zs : List ByteArray) (w : World) (i : Value) (wr : World) : Prop :=
  ∃ (k : Nat) (cs : Array Value), k ≤ len ∧ i = .int .i64 k ∧ At wr w.heap.size 9 cs ∧ cs.size = len ∧ (∀ j, j < k → cs[j]? = some (.string (zs.getD j ByteArray.empty))) ∧ Below w.heap.size w wr
theorem cpS_nil (w : World) : Calls Try.prog 6 #[.slice none 0 0] w fun e w' => e = .returned (.slice none 0 0) ∧ w = w' := by
  have qT : ∀ (w : World) (a : Option Addr) (n c n' c' : Nat), (binOp .eql 22 (.slice a n c) (.slice none n' c')).run Try.prog w = .ok (.bool a.isNone) w := fun w a n c n' c' => Lib.run_eql_slice_nil w 22 9 a n c n' c' Try.underlying22
  go_enter Try.func6, Try.ntmps6
  go_wp2_with fail
  go_ret
  exact ⟨rfl, rfl⟩
set_option maxRecDepth 100000 in
set_option maxHeartbeats 1000000 in
theorem cpS_some (x : Addr) (len cap : Nat) (zs : List ByteArray) (w : World) (hz : len ≤ zs.length) (hcell : ∀ i, i < zs.length → w.cell? (x.add i) = some (.string (zs.getD i ByteArray.empty))) (hlen : len ≤ 1048576) :
    Calls Try.prog 6 #[.slice (some x) len cap] w (cpSPost len zs w) := by
  have qT : ∀ (w : World) (a : Option Addr) (n c n' c' : Nat), (binOp .eql 22 (.slice a n c) (.slice none n' c')).run Try.prog w = .ok (.bool a.isNone) w := fun w a n c n' c' => Lib.run_eql_slice_nil w 22 9 a n c n' c' Try.underlying22
  have hmk := made (P := Try.prog) (t := 22) (e := 9) (z := .string ⟨#[]⟩) (sz := 1) (by_ := 16) Try.underlying22 (by kernel_rfl) w len (by omega) (by omega)
  rw [Nat.mul_one] at hmk
  have HC := Lib.hid hcell
  clear hcell
  go_enter Try.func6, Try.ntmps6
  go_wp2_with fail
  go_loopw [4] (fun i wr => cpSRel len zs w i wr) (fun i _ => len - (intOf i).toNat)
  case atStart => exact ⟨0, _, Nat.zero_le _, rfl, At.new _ _ _, by simp [size_madeCells, Value.cells], fun j hj => absurd hj (by omega), (Below.refl _ _).alloc (Nat.le_refl _) _⟩
  case round =>
    obtain ⟨k, cs, hk, rfl, hat, hsz, hcs, hb⟩ := hrel
    by_cases hlt : k < len
    · have hc := HC.out k (by omega)
      obtain ⟨b, off, rfl⟩ := spot_none (HC.out 0 (by omega))
      rw [add_none] at hc
      have hc1 : wr.cell? ⟨b, off + k, none⟩ = some (.string (zs.getD k ByteArray.empty)) := by
        exact kept hb hc
      have hd : wr.cell? ⟨w.heap.size, k, none⟩ = some cs[k] := by rw [hat.cell k]; simp [hsz, hlt]
      have hf := hat.frozen k
      clear hc
      have HAT := Lib.hid hat
      have HCS := Lib.hid hcs
      have HSZ := Lib.hid hsz
      clear hat hcs
      go_wp2_with fail
      go_roundw
      case rel =>
        refine ⟨k + 1, _, by omega, by go_num, HAT.out.set k _, by simp [HSZ.out], ?_, hb.setCell (Nat.le_refl _) _⟩
        intro j hj
        by_cases e : j = k
        · subst e; simp [HSZ.out, hlt]
        · rw [Array.getElem?_setIfInBounds_ne (by omega)]; exact HCS.out j (by omega)
      case measure => simp [intOf]; omega
    · have e : k = len := by omega
      subst e
      have HAT := Lib.hid hat
      have HCS := Lib.hid hcs
      have HSZ := Lib.hid hsz
      clear hat hcs hsz
      go_wp2_with fail
      go_ret
      exact ⟨cs, rfl, HAT.out, HSZ.out, HCS.out, hb⟩

theorem cpS_any (a : Option Addr) (len cap : Nat) (zs : List ByteArray) (w : World) (h : IsStrs w a len cap zs) (hlen : len ≤ 1048576) :
    Calls Try.prog 6 #[.slice a len cap] w (ClonedV len (fun i => .string (zs.getD i ByteArray.empty)) w) := by
  rcases h with ⟨rfl, rfl, rfl, rfl⟩ | ⟨x, rfl, hl, hm, hz, hcell, hwz⟩
  · refine (cpS_nil w).mono ?_
    rintro e w' ⟨rfl, rfl⟩
    exact ⟨none, 0, rfl, fun h => absurd h (by omega), Below.refl _ _⟩
  · refine (cpS_some x len cap zs w (by omega) hcell hlen).mono ?_
    rintro e w' ⟨cs, rfl, hat, hsz, hcs, hb⟩
    exact ⟨_, _, rfl, fun _ => ⟨w.heap.size, 0, rfl, fun i hi => by rw [hat.cell, Nat.zero_add]; exact hcs i hi⟩, hb⟩

/-- What the copy 'cpU' hands back of a slice that is not nil. -/
def cpUPost (len : Nat) (zs : List Int) (w : World) (e : Ending) (w' : World) : Prop :=
  ∃ cs, e = .returned (.slice (some ⟨w.heap.size, 0, none⟩) len len) ∧ At w' w.heap.size 35 cs ∧ cs.size = len ∧ (∀ i, i < len → cs[i]? = some (.int .u32 (zs.getD i 0))) ∧ Below w.heap.size w w'
def cpURel (len : Nat) (zs : List Int) (w : World) (i : Value) (wr : World) : Prop :=
  ∃ (k : Nat) (cs : Array Value), k ≤ len ∧ i = .int .i64 k ∧ At wr w.heap.size 35 cs ∧ cs.size = len ∧ (∀ j, j < k → cs[j]? = some (.int .u32 (zs.getD j 0))) ∧ Below w.heap.size w wr
theorem cpU_nil (w : World) : Calls Try.prog 7 #[.slice none 0 0] w fun e w' => e = .returned (.slice none 0 0) ∧ w = w' := by
  have qT : ∀ (w : World) (a : Option Addr) (n c n' c' : Nat), (binOp .eql 23 (.slice a n c) (.slice none n' c')).run Try.prog w = .ok (.bool a.isNone) w := fun w a n c n' c' => Lib.run_eql_slice_nil w 23 35 a n c n' c' Try.underlying23
  go_enter Try.func7, Try.ntmps7
  go_wp2_with fail
  go_ret
  exact ⟨rfl, rfl⟩
set_option maxRecDepth 100000 in
set_option maxHeartbeats 1000000 in
theorem cpU_some (x : Addr) (len cap : Nat) (zs : List Int) (w : World) (hz : len ≤ zs.length) (hcell : ∀ i, i < zs.length → w.cell? (x.add i) = some (.int .u32 (zs.getD i 0))) (hlen : len ≤ 1048576) :
    Calls Try.prog 7 #[.slice (some x) len cap] w (cpUPost len zs w) := by
  have qT : ∀ (w : World) (a : Option Addr) (n c n' c' : Nat), (binOp .eql 23 (.slice a n c) (.slice none n' c')).run Try.prog w = .ok (.bool a.isNone) w := fun w a n c n' c' => Lib.run_eql_slice_nil w 23 35 a n c n' c' Try.underlying23
  have hmk := made (P := Try.prog) (t := 23) (e := 35) (z := .int .u32 0) (sz := 1) (by_ := 4) Try.underlying23 (by kernel_rfl) w len (by omega) (by omega)
  rw [Nat.mul_one] at hmk
  have HC := Lib.hid hcell
  clear hcell
  go_enter Try.func7, Try.ntmps7
  go_wp2_with fail
  go_loopw [4] (fun i wr => cpURel len zs w i wr) (fun i _ => len - (intOf i).toNat)
  case atStart => exact ⟨0, _, Nat.zero_le _, rfl, At.new _ _ _, by simp [size_madeCells, Value.cells], fun j hj => absurd hj (by omega), (Below.refl _ _).alloc (Nat.le_refl _) _⟩
  case round =>
    obtain ⟨k, cs, hk, rfl, hat, hsz, hcs, hb⟩ := hrel
    by_cases hlt : k < len
    · have hc := HC.out k (by omega)
      obtain ⟨b, off, rfl⟩ := spot_none (HC.out 0 (by omega))
      rw [add_none] at hc
      have hc1 : wr.cell? ⟨b, off + k, none⟩ = some (.int .u32 (zs.getD k 0)) := by
        exact kept hb hc
      have hd : wr.cell? ⟨w.heap.size, k, none⟩ = some cs[k] := by rw [hat.cell k]; simp [hsz, hlt]
      have hf := hat.frozen k
      clear hc
      have HAT := Lib.hid hat
      have HCS := Lib.hid hcs
      have HSZ := Lib.hid hsz
      clear hat hcs
      go_wp2_with fail
      go_roundw
      case rel =>
        refine ⟨k + 1, _, by omega, by go_num, HAT.out.set k _, by simp [HSZ.out], ?_, hb.setCell (Nat.le_refl _) _⟩
        intro j hj
        by_cases e : j = k
        · subst e; simp [HSZ.out, hlt]
        · rw [Array.getElem?_setIfInBounds_ne (by omega)]; exact HCS.out j (by omega)
      case measure => simp [intOf]; omega
    · have e : k = len := by omega
      subst e
      have HAT := Lib.hid hat
      have HCS := Lib.hid hcs
      have HSZ := Lib.hid hsz
      clear hat hcs hsz
      go_wp2_with fail
      go_ret
      exact ⟨cs, rfl, HAT.out, HSZ.out, HCS.out, hb⟩

theorem cpU_any (a : Option Addr) (len cap : Nat) (zs : List Int) (w : World) (h : IsRow .u32 w a len cap zs) (hlen : len ≤ 1048576) :
    Calls Try.prog 7 #[.slice a len cap] w (ClonedV len (fun i => .int .u32 (zs.getD i 0)) w) := by
  rcases h with ⟨rfl, rfl, rfl, rfl⟩ | ⟨x, rfl, hl, hm, hz, hcell, hwz⟩
  · refine (cpU_nil w).mono ?_
    rintro e w' ⟨rfl, rfl⟩
    exact ⟨none, 0, rfl, fun h => absurd h (by omega), Below.refl _ _⟩
  · refine (cpU_some x len cap zs w (by omega) hcell hlen).mono ?_
    rintro e w' ⟨cs, rfl, hat, hsz, hcs, hb⟩
    exact ⟨_, _, rfl, fun _ => ⟨w.heap.size, 0, rfl, fun i hi => by rw [hat.cell, Nat.zero_add]; exact hcs i hi⟩, hb⟩

/-- What the copy 'cpB' hands back of a slice that is not nil. -/
def cpBPost (len : Nat) (zs : List Bool) (w : World) (e : Ending) (w' : World) : Prop :=
  ∃ cs, e = .returned (.slice (some ⟨w.heap.size, 0, none⟩) len len) ∧ At w' w.heap.size 4 cs ∧ cs.size = len ∧ (∀ i, i < len → cs[i]? = some (.bool (zs.getD i false))) ∧ Below w.heap.size w w'
def cpBRel (len : Nat) (zs : List Bool) (w : World) (i : Value) (wr : World) : Prop :=
  ∃ (k : Nat) (cs : Array Value), k ≤ len ∧ i = .int .i64 k ∧ At wr w.heap.size 4 cs ∧ cs.size = len ∧ (∀ j, j < k → cs[j]? = some (.bool (zs.getD j false))) ∧ Below w.heap.size w wr
theorem cpB_nil (w : World) : Calls Try.prog 8 #[.slice none 0 0] w fun e w' => e = .returned (.slice none 0 0) ∧ w = w' := by
  have qT : ∀ (w : World) (a : Option Addr) (n c n' c' : Nat), (binOp .eql 24 (.slice a n c) (.slice none n' c')).run Try.prog w = .ok (.bool a.isNone) w := fun w a n c n' c' => Lib.run_eql_slice_nil w 24 4 a n c n' c' Try.underlying24
  go_enter Try.func8, Try.ntmps8
  go_wp2_with fail
  go_ret
  exact ⟨rfl, rfl⟩
set_option maxRecDepth 100000 in
set_option maxHeartbeats 1000000 in
theorem cpB_some (x : Addr) (len cap : Nat) (zs : List Bool) (w : World) (hz : len ≤ zs.length) (hcell : ∀ i, i < zs.length → w.cell? (x.add i) = some (.bool (zs.getD i false))) (hlen : len ≤ 1048576) :
    Calls Try.prog 8 #[.slice (some x) len cap] w (cpBPost len zs w) := by
  have qT : ∀ (w : World) (a : Option Addr) (n c n' c' : Nat), (binOp .eql 24 (.slice a n c) (.slice none n' c')).run Try.prog w = .ok (.bool a.isNone) w := fun w a n c n' c' => Lib.run_eql_slice_nil w 24 4 a n c n' c' Try.underlying24
  have hmk := made (P := Try.prog) (t := 24) (e := 4) (z := .bool false) (sz := 1) (by_ := 1) Try.underlying24 (by kernel_rfl) w len (by omega) (by omega)
  rw [Nat.mul_one] at hmk
  have HC := Lib.hid hcell
  clear hcell
  go_enter Try.func8, Try.ntmps8
  go_wp2_with fail
  go_loopw [4] (fun i wr => cpBRel len zs w i wr) (fun i _ => len - (intOf i).toNat)
  case atStart => exact ⟨0, _, Nat.zero_le _, rfl, At.new _ _ _, by simp [size_madeCells, Value.cells], fun j hj => absurd hj (by omega), (Below.refl _ _).alloc (Nat.le_refl _) _⟩
  case round =>
    obtain ⟨k, cs, hk, rfl, hat, hsz, hcs, hb⟩ := hrel
    by_cases hlt : k < len
    · have hc := HC.out k (by omega)
      obtain ⟨b, off, rfl⟩ := spot_none (HC.out 0 (by omega))
      rw [add_none] at hc
      have hc1 : wr.cell? ⟨b, off + k, none⟩ = some (.bool (zs.getD k false)) := by
        exact kept hb hc
      have hd : wr.cell? ⟨w.heap.size, k, none⟩ = some cs[k] := by rw [hat.cell k]; simp [hsz, hlt]
      have hf := hat.frozen k
      clear hc
      have HAT := Lib.hid hat
      have HCS := Lib.hid hcs
      have HSZ := Lib.hid hsz
      clear hat hcs
      go_wp2_with fail
      go_roundw
      case rel =>
        refine ⟨k + 1, _, by omega, by go_num, HAT.out.set k _, by simp [HSZ.out], ?_, hb.setCell (Nat.le_refl _) _⟩
        intro j hj
        by_cases e : j = k
        · subst e; simp [HSZ.out, hlt]
        · rw [Array.getElem?_setIfInBounds_ne (by omega)]; exact HCS.out j (by omega)
      case measure => simp [intOf]; omega
    · have e : k = len := by omega
      subst e
      have HAT := Lib.hid hat
      have HCS := Lib.hid hcs
      have HSZ := Lib.hid hsz
      clear hat hcs hsz
      go_wp2_with fail
      go_ret
      exact ⟨cs, rfl, HAT.out, HSZ.out, HCS.out, hb⟩

theorem cpB_any (a : Option Addr) (len cap : Nat) (zs : List Bool) (w : World) (h : IsBools w a len cap zs) (hlen : len ≤ 1048576) :
    Calls Try.prog 8 #[.slice a len cap] w (ClonedV len (fun i => .bool (zs.getD i false)) w) := by
  rcases h with ⟨rfl, rfl, rfl, rfl⟩ | ⟨x, rfl, hl, hm, hz, hcell⟩
  · refine (cpB_nil w).mono ?_
    rintro e w' ⟨rfl, rfl⟩
    exact ⟨none, 0, rfl, fun h => absurd h (by omega), Below.refl _ _⟩
  · refine (cpB_some x len cap zs w (by omega) hcell hlen).mono ?_
    rintro e w' ⟨cs, rfl, hat, hsz, hcs, hb⟩
    exact ⟨_, _, rfl, fun _ => ⟨w.heap.size, 0, rfl, fun i hi => by rw [hat.cell, Nat.zero_add]; exact hcs i hi⟩, hb⟩

def F16 (fl : Int) : Int := IntKind.u16.wrap fl
theorem F16_bd (fl : Int) : 0 ≤ F16 fl ∧ F16 fl ≤ 65535 := wrap_within .u16 fl
def Is (v : Value) (w : World) (e : Ending) (w' : World) : Prop := e = .returned v ∧ w = w'
theorem PR.form {w : World} {B b n : Nat} {xs : List Value} (h : PR w B b n xs) (hn : 0 < n) : ∃ g c, w.cell? ⟨b, 169, none⟩ = some (.slice (some ⟨g, 0, none⟩) n c) ∧ ∀ j, j < n * 15 → w.cell? ⟨g, j, none⟩ = xs[j]? := by
  obtain ⟨a, c, h169, _, hown, _⟩ := h
  obtain ⟨g, c', e⟩ : ∃ g c', (Value.slice a n c) = .slice (some ⟨g, 0, none⟩) n c' := by
    obtain ⟨_, ⟨e, rfl⟩ | ⟨g, cap, cur, e, _⟩⟩ := hown
    · omega
    · exact ⟨g, cap, e⟩
  simp only [Value.slice.injEq] at e
  obtain ⟨rfl, _, rfl⟩ := e
  exact ⟨g, _, h169, fun j hj => World.ownsRow.cellAt hown j hj⟩

set_option maxRecDepth 100000 in
set_option maxHeartbeats 1000000 in
theorem zAdd (B b n : Nat) (xs : List Value) (A : Option Addr) (tx : ByteArray) (st ln fl ph kd : Int) (w : World) (hb : B ≤ b) (hn : n ≤ 1000000) (hz : B ≤ w.heap.size) (h : PR w B b n xs) :
    Calls Try.prog 11 #[.pointer (some ⟨b, 0, none⟩), .int .u8 kd, .int .u8 ph, .int .i32 st, .int .i32 ln, .string tx, .pointer A, .int .u32 fl] w (ARP B b n xs A tx st ln (F16 fl) ph kd w) := by
  have HC := Lib.hid (addRec B b n xs A tx st ln (F16 fl) ph kd w hb hn hz h)
  clear h
  have e0 : IntKind.u16.wrap fl = F16 fl := rfl
  go_enter Try.func11, Try.ntmps11
  go_wp2_with fail
  refine HC.out.mono ?_
  rintro e w1 ⟨rfl, hp, hk, hbl⟩
  have HP := Lib.hid hp
  clear hp
  go_wp2_with fail
  go_ret
  exact ⟨rfl, HP.out, hk, hbl⟩

set_option maxRecDepth 100000 in
set_option maxHeartbeats 1000000 in
theorem zCount (B b n : Nat) (xs : List Value) (w : World) (h : PR w B b n xs) :
    Calls Try.prog 12 #[.pointer (some ⟨b, 0, none⟩)] w (Is (.int .i64 n) w) := by
  obtain ⟨a, c, h169, _⟩ := h
  go_enter Try.func12, Try.ntmps12
  go_wp2_with fail
  go_ret
  exact ⟨rfl, rfl⟩

set_option maxRecDepth 100000 in
set_option maxHeartbeats 1000000 in
theorem zText (B b n k : Nat) (xs : List Value) (tx : ByteArray) (w : World) (h : PR w B b n xs) (hk : k < n) (hn : n ≤ 1000000) (hx : xs[k * 15 + 2]? = some (.string tx)) :
    Calls Try.prog 13 #[.pointer (some ⟨b, 0, none⟩), .int .i64 (k : Int)] w (Is (.string tx) w) := by
  obtain ⟨g, c, h169, hc⟩ := h.form (by omega)
  have c0 := (hc (k * 15 + 2) (by omega)).trans hx
  clear hc hx h
  have hk1 : (k : Int) < (n : Int) := by omega
  go_enter Try.func13, Try.ntmps13
  go_wp2_with fail
  go_ret
  exact ⟨rfl, rfl⟩

set_option maxRecDepth 100000 in
set_option maxHeartbeats 1000000 in
theorem zFlags (B b n k : Nat) (xs : List Value) (fl : Int) (w : World) (h : PR w B b n xs) (hk : k < n) (hn : n ≤ 1000000) (f0 : 0 ≤ fl) (f1 : fl ≤ 65535) (hx : xs[k * 15 + 12]? = some (.int .u16 fl)) :
    Calls Try.prog 14 #[.pointer (some ⟨b, 0, none⟩), .int .i64 (k : Int)] w (Is (.int .u32 fl) w) := by
  obtain ⟨g, c, h169, hc⟩ := h.form (by omega)
  have c0 := (hc (k * 15 + 12) (by omega)).trans hx
  clear hc hx h
  have hk1 : (k : Int) < (n : Int) := by omega
  go_enter Try.func14, Try.ntmps14
  go_wp2_with fail
  go_ret
  exact ⟨rfl, rfl⟩

set_option maxRecDepth 100000 in
set_option maxHeartbeats 1000000 in
theorem zAssert (B b n k : Nat) (xs : List Value) (A : Option Addr) (w : World) (h : PR w B b n xs) (hk : k < n) (hn : n ≤ 1000000) (hx : xs[k * 15 + 0]? = some (.pointer A)) :
    Calls Try.prog 16 #[.pointer (some ⟨b, 0, none⟩), .int .i64 (k : Int)] w (Is (.pointer A) w) := by
  obtain ⟨g, c, h169, hc⟩ := h.form (by omega)
  have c0 := (hc (k * 15 + 0) (by omega)).trans hx
  clear hc hx h
  have hk1 : (k : Int) < (n : Int) := by omega
  rw [Nat.add_zero] at c0
  go_enter Try.func16, Try.ntmps16
  go_wp2_with fail
  go_ret
  exact ⟨rfl, rfl⟩

set_option maxRecDepth 100000 in
set_option maxHeartbeats 1000000 in
theorem zKind (B b n k : Nat) (xs : List Value) (v : Int) (w : World) (h : PR w B b n xs) (hk : k < n) (hn : n ≤ 1000000) (hx : xs[k * 15 + 14]? = some (.int .u8 v)) :
    Calls Try.prog 17 #[.pointer (some ⟨b, 0, none⟩), .int .i64 (k : Int)] w (Is (.int .u8 v) w) := by
  obtain ⟨g, c, h169, hc⟩ := h.form (by omega)
  have c0 := (hc (k * 15 + 14) (by omega)).trans hx
  clear hc hx h
  have hk1 : (k : Int) < (n : Int) := by omega
  go_enter Try.func17, Try.ntmps17
  go_wp2_with fail
  go_ret
  exact ⟨rfl, rfl⟩

set_option maxRecDepth 100000 in
set_option maxHeartbeats 1000000 in
theorem zPhase (B b n k : Nat) (xs : List Value) (v : Int) (w : World) (h : PR w B b n xs) (hk : k < n) (hn : n ≤ 1000000) (hx : xs[k * 15 + 13]? = some (.int .u8 v)) :
    Calls Try.prog 19 #[.pointer (some ⟨b, 0, none⟩), .int .i64 (k : Int)] w (Is (.int .u8 v) w) := by
  obtain ⟨g, c, h169, hc⟩ := h.form (by omega)
  have c0 := (hc (k * 15 + 13) (by omega)).trans hx
  clear hc hx h
  have hk1 : (k : Int) < (n : Int) := by omega
  go_enter Try.func19, Try.ntmps19
  go_wp2_with fail
  go_ret
  exact ⟨rfl, rfl⟩

set_option maxRecDepth 100000 in
set_option maxHeartbeats 1000000 in
theorem zStart (B b n k : Nat) (xs : List Value) (v : Int) (w : World) (h : PR w B b n xs) (hk : k < n) (hn : n ≤ 1000000) (hx : xs[k * 15 + 7]? = some (.int .i32 v)) :
    Calls Try.prog 21 #[.pointer (some ⟨b, 0, none⟩), .int .i64 (k : Int)] w (Is (.int .i32 v) w) := by
  obtain ⟨g, c, h169, hc⟩ := h.form (by omega)
  have c0 := (hc (k * 15 + 7) (by omega)).trans hx
  clear hc hx h
  have hk1 : (k : Int) < (n : Int) := by omega
  go_enter Try.func21, Try.ntmps21
  go_wp2_with fail
  go_ret
  exact ⟨rfl, rfl⟩

set_option maxRecDepth 100000 in
set_option maxHeartbeats 1000000 in
theorem zLen (B b n k : Nat) (xs : List Value) (v : Int) (w : World) (h : PR w B b n xs) (hk : k < n) (hn : n ≤ 1000000) (hx : xs[k * 15 + 8]? = some (.int .i32 v)) :
    Calls Try.prog 22 #[.pointer (some ⟨b, 0, none⟩), .int .i64 (k : Int)] w (Is (.int .i32 v) w) := by
  obtain ⟨g, c, h169, hc⟩ := h.form (by omega)
  have c0 := (hc (k * 15 + 8) (by omega)).trans hx
  clear hc hx h
  have hk1 : (k : Int) < (n : Int) := by omega
  go_enter Try.func22, Try.ntmps22
  go_wp2_with fail
  go_ret
  exact ⟨rfl, rfl⟩

set_option maxRecDepth 100000 in
set_option maxHeartbeats 1000000 in
theorem sFlags (fl : Int) (w : World) :
    Calls Try.prog 15 #[.int .u32 fl] w (Is (.int .u32 (F16 fl)) w) := by
  obtain ⟨f0, f1⟩ := F16_bd fl
  have e0 : IntKind.u16.wrap fl = F16 fl := rfl
  go_enter Try.func15, Try.ntmps15
  go_wp2_with fail
  go_ret
  exact ⟨rfl, rfl⟩

set_option maxRecDepth 100000 in
set_option maxHeartbeats 1000000 in
theorem sKind (v : Int) (w : World) :
    Calls Try.prog 18 #[.int .u8 v] w (Is (.int .u8 v) w) := by
  go_enter Try.func18, Try.ntmps18
  go_wp2_with fail
  go_ret
  exact ⟨rfl, rfl⟩

set_option maxRecDepth 100000 in
set_option maxHeartbeats 1000000 in
theorem sPhase (v : Int) (w : World) :
    Calls Try.prog 20 #[.int .u8 v] w (Is (.int .u8 v) w) := by
  go_enter Try.func20, Try.ntmps20
  go_wp2_with fail
  go_ret
  exact ⟨rfl, rfl⟩

def AsP (w : World) (e : Ending) (w' : World) : Prop := e = .returned (.pointer (some ⟨w.heap.size, 0, none⟩)) ∧ ∃ cs, w' = w.alloc (.cells cs 176)

set_option maxRecDepth 100000 in
set_option maxHeartbeats 1000000 in
theorem mkAs  (w : World) :
    Calls Try.prog 10 #[] w (AsP w) := by
  go_enter Try.func10, Try.ntmps10
  go_wp2_with fail
  go_ret
  exact ⟨rfl, _, rfl⟩

noncomputable def pz : Array Value := zeroOf Try.prog 172
theorem pz_size : pz.size = 353 := by kernel_rfl
attribute [local go_sem] pz_size
theorem wpList_run0 {P : Program} {ops : Array Oper} {rest : List Oper} {o : Oper} {a : Act} {w : World} {Q : Exit → Act → World → Prop} (hgd : o.guard = none) (v : Value)
    (hr : (execOp a.eval o).run P w = .ok (.value v) w) (h : wpList P ops Q rest (a.put o.dst v) w) : wpList P ops Q (o :: rest) a w := wpList_run hgd v w hr h
def NPP (w : World) (e : Ending) (w' : World) : Prop := e = .returned (.pointer (some ⟨w.heap.size, 0, none⟩)) ∧ PR w' w.heap.size w.heap.size 0 [] ∧ Below w.heap.size w w' ∧ w'.heap.size = w.heap.size + 1
theorem newP_end (w : World) (arr : Array Value) (h : arr[169]? = some (.slice none 0 0)) : NPP w (.returned (.pointer (some ⟨w.heap.size, 0, none⟩))) (w.alloc (.cells arr 172)) := by
  have hat : At (w.alloc (.cells arr 172)) w.heap.size 172 arr := heap_alloc_new w _
  exact ⟨rfl, ⟨none, 0, by rw [hat.cell]; exact h, hat.frozen _, World.ownsRow_nil _ _ _ _, fun k hk => by cases hk⟩, (Below.refl _ _).alloc (Nat.le_refl _) _, by simp⟩
set_option maxRecDepth 100000 in
set_option maxHeartbeats 1000000 in
theorem newP (w : World) : Calls Try.prog 9 #[] w (NPP w) := by
  go_enter Try.func9, Try.ntmps9
  go_wp2_with (refine wpList_run0 (o := ⟨some 1, .build 172 #[], _, _, _, _⟩) rfl (.agg pz) ?hr ?_; case hr => kernel_rfl)
  exact bodyPost_ret (v := .pointer (some ⟨w.heap.size, 0, none⟩)) (by simp [results, Try.results9, go_sem]) rfl (newP_end w _ (by kernel_rfl))
end Go.Proofs.Ythgcchgpplblbaa
