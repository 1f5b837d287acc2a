/- Proved here: the contracts of the small functions of the law FnScanStmtsExact. Conditions as stated. -/
import Derived.Test.YtjnffbnipjkibaaDoorBase
import Derived.WalkKit
import Derived.WalkSpells
import Derived.WalkLawsBesides
import Derived.Lib.Hide
import Derived.Lib.SliceRun
import Derived.Deep.RegionWith
import Derived.OwnWalk
import Derived.Laws.OwnMore
namespace Go.Proofs.YtjnffbnipjkibaaDoor
open Go.RowKit
set_option linter.unusedSimpArgs false
set_option linter.unusedVariables false

/-- A slice that reads as f at each index below len; nil where len is 0 is let in. -/
def RowV (w : World) (a : Option Addr) (len : Nat) (f : Nat → Value) : Prop :=
  0 < len → ∃ B off, a = some ⟨B, off, none⟩ ∧ ∀ i, i < len → w.cell? ⟨B, off + i, none⟩ = some (f i)
theorem RowV.below {w w' : World} {a : Option Addr} {len : Nat} {f : Nat → Value} (h : RowV w a len f) (hb : Below w.heap.size w w') : RowV w' a len f := fun hp => by
  obtain ⟨B, off, e, hc⟩ := h hp
  exact ⟨B, off, e, fun i hi => kept hb (hc i hi)⟩
def ClonedV (len : Nat) (f : Nat → Value) (w : World) (e : Ending) (w' : World) : Prop :=
  ∃ a' cap', e = .returned (.slice a' len cap') ∧ RowV w' a' len f ∧ Below w.heap.size w w'
theorem rowv_ints {k : IntKind} {w : World} {a : Option Addr} {len cap : Nat} {zs : List Int} (h : IsRow k w a len cap zs) : RowV w a len (fun i => .int k (zs.getD i 0)) := by
  intro hp
  rcases h with ⟨_, rfl, _⟩ | ⟨x, rfl, hl, hm, hz, hcell, _⟩
  · omega
  · obtain ⟨b, off, rfl⟩ := spot_none (hcell 0 (by omega))
    exact ⟨b, off, rfl, fun i hi => by rw [← add_none]; exact hcell i (by omega)⟩
theorem rowv_bools {w : World} {a : Option Addr} {len cap : Nat} {zs : List Bool} (h : IsBools w a len cap zs) : RowV w a len (fun i => .bool (zs.getD i false)) := by
  intro hp
  rcases h with ⟨_, rfl, _⟩ | ⟨x, rfl, hl, hm, hz, hcell⟩
  · omega
  · obtain ⟨b, off, rfl⟩ := spot_none (hcell 0 (by omega))
    exact ⟨b, off, rfl, fun i hi => by rw [← add_none]; exact hcell i (by omega)⟩
theorem rowv_strs {w : World} {a : Option Addr} {len cap : Nat} {zs : List ByteArray} (h : IsStrs w a len cap zs) : RowV w a len (fun i => .string (zs.getD i ByteArray.empty)) := by
  intro hp
  rcases h with ⟨_, rfl, _⟩ | ⟨x, rfl, hl, hm, hz, hcell, _⟩
  · omega
  · obtain ⟨b, off, rfl⟩ := spot_none (hcell 0 (by omega))
    exact ⟨b, off, rfl, fun i hi => by rw [← add_none]; exact hcell i (by omega)⟩
theorem len_ints {k : IntKind} {w : World} {a : Option Addr} {len cap : Nat} {zs : List Int} (h : IsRow k w a len cap zs) : len ≤ maxLen ∧ len ≤ zs.length ∧ ∀ i, (Lit.int k (zs.getD i 0)).wf = true ∨ zs.length ≤ i := by
  rcases h with ⟨_, rfl, _, rfl⟩ | ⟨x, rfl, hl, hm, hz, hcell, hw⟩
  · exact ⟨by unfold maxLen; omega, by simp, fun i => .inr (by simp)⟩
  · refine ⟨by omega, by omega, fun i => ?_⟩
    by_cases hi : i < zs.length
    · left; exact hw _ (by simp [List.getD, hi])
    · right; omega
theorem len_bools {w : World} {a : Option Addr} {len cap : Nat} {zs : List Bool} (h : IsBools w a len cap zs) : len ≤ maxLen := by
  rcases h with ⟨_, rfl, _, rfl⟩ | ⟨x, rfl, hl, hm, hz, hcell⟩
  · unfold maxLen; omega
  · omega
theorem len_strs {w : World} {a : Option Addr} {len cap : Nat} {zs : List ByteArray} (h : IsStrs w a len cap zs) : len ≤ maxLen ∧ ∀ i, (zs.getD i ByteArray.empty).size ≤ maxLen := by
  rcases h with ⟨_, rfl, _, rfl⟩ | ⟨x, rfl, hl, hm, hz, hcell, hw⟩
  · exact ⟨by unfold maxLen; omega, fun i => by simp⟩
  · refine ⟨by omega, fun i => ?_⟩
    by_cases hi : i < zs.length
    · exact hw _ (by simp [List.getD, hi])
    · simp [List.getD, hi]

/-- What the copy 'cpU8' hands back of a slice that is not nil. -/
def cpU8Post (len : Nat) (zs : List Int) (w : World) (e : Ending) (w' : World) : Prop :=
  ∃ cs, e = .returned (.slice (some ⟨w.heap.size, 0, none⟩) len len) ∧ At w' w.heap.size 5 cs ∧ cs.size = len ∧ (∀ i, i < len → cs[i]? = some (.int .u8 (zs.getD i 0))) ∧ Below w.heap.size w w'
def cpU8Rel (len : Nat) (zs : List Int) (w : World) (i : Value) (wr : World) : Prop :=
  ∃ (k : Nat) (cs : Array Value), k ≤ len ∧ i = .int .i64 k ∧ At wr w.heap.size 5 cs ∧ cs.size = len ∧ (∀ j, j < k → cs[j]? = some (.int .u8 (zs.getD j 0))) ∧ Below w.heap.size w wr
theorem cpU8_nil (w : World) : Calls Tryd.prog 13 #[.slice none 0 0] w fun e w' => e = .returned (.slice none 0 0) ∧ w = w' := by
  have qT : ∀ (w : World) (a : Option Addr) (n c n' c' : Nat), (binOp .eql 38 (.slice a n c) (.slice none n' c')).run Tryd.prog w = .ok (.bool a.isNone) w := fun w a n c n' c' => Lib.run_eql_slice_nil w 38 5 a n c n' c' Tryd.underlying38
  go_enter Tryd.func13, Tryd.ntmps13
  go_wp2_with fail
  go_ret
  exact ⟨rfl, rfl⟩
set_option maxRecDepth 100000 in
set_option maxHeartbeats 1000000 in
theorem cpU8_some (x : Addr) (len cap : Nat) (zs : List Int) (w : World) (hz : len ≤ zs.length) (hcell : ∀ i, i < zs.length → w.cell? (x.add i) = some (.int .u8 (zs.getD i 0))) (hlen : len ≤ 1048576) :
    Calls Tryd.prog 13 #[.slice (some x) len cap] w (cpU8Post len zs w) := by
  have qT : ∀ (w : World) (a : Option Addr) (n c n' c' : Nat), (binOp .eql 38 (.slice a n c) (.slice none n' c')).run Tryd.prog w = .ok (.bool a.isNone) w := fun w a n c n' c' => Lib.run_eql_slice_nil w 38 5 a n c n' c' Tryd.underlying38
  have hmk := made (P := Tryd.prog) (t := 38) (e := 5) (z := .int .u8 0) (sz := 1) (by_ := 1) Tryd.underlying38 (by kernel_rfl) w len (by omega) (by omega)
  rw [Nat.mul_one] at hmk
  have HC := Lib.hid hcell
  clear hcell
  go_enter Tryd.func13, Tryd.ntmps13
  go_wp2_with fail
  go_loopw [4] (fun i wr => cpU8Rel len zs w i wr) (fun i _ => len - (intOf i).toNat)
  case atStart => exact ⟨0, _, Nat.zero_le _, rfl, At.new _ _ _, by simp [size_madeCells, Value.cells], fun j hj => absurd hj (by omega), (Below.refl _ _).alloc (Nat.le_refl _) _⟩
  case round =>
    obtain ⟨k, cs, hk, rfl, hat, hsz, hcs, hb⟩ := hrel
    by_cases hlt : k < len
    · have hc := HC.out k (by omega)
      obtain ⟨b, off, rfl⟩ := spot_none (HC.out 0 (by omega))
      rw [add_none] at hc
      have hc1 : wr.cell? ⟨b, off + k, none⟩ = some (.int .u8 (zs.getD k 0)) := by
        exact kept hb hc
      have hd : wr.cell? ⟨w.heap.size, k, none⟩ = some cs[k] := by rw [hat.cell k]; simp [hsz, hlt]
      have hf := hat.frozen k
      clear hc
      have HAT := Lib.hid hat
      have HCS := Lib.hid hcs
      have HSZ := Lib.hid hsz
      clear hat hcs
      go_wp2_with fail
      go_roundw
      case rel =>
        refine ⟨k + 1, _, by omega, by go_num, HAT.out.set k _, by simp [HSZ.out], ?_, hb.setCell (Nat.le_refl _) _⟩
        intro j hj
        by_cases e : j = k
        · subst e; simp [HSZ.out, hlt]
        · rw [Array.getElem?_setIfInBounds_ne (by omega)]; exact HCS.out j (by omega)
      case measure => simp [intOf]; omega
    · have e : k = len := by omega
      subst e
      have HAT := Lib.hid hat
      have HCS := Lib.hid hcs
      have HSZ := Lib.hid hsz
      clear hat hcs hsz
      go_wp2_with fail
      go_ret
      exact ⟨cs, rfl, HAT.out, HSZ.out, HCS.out, hb⟩

theorem cpU8_any (a : Option Addr) (len cap : Nat) (zs : List Int) (w : World) (h : IsRow .u8 w a len cap zs) (hlen : len ≤ 1048576) :
    Calls Tryd.prog 13 #[.slice a len cap] w (ClonedV len (fun i => .int .u8 (zs.getD i 0)) w) := by
  rcases h with ⟨rfl, rfl, rfl, rfl⟩ | ⟨x, rfl, hl, hm, hz, hcell, hwz⟩
  · refine (cpU8_nil w).mono ?_
    rintro e w' ⟨rfl, rfl⟩
    exact ⟨none, 0, rfl, fun h => absurd h (by omega), Below.refl _ _⟩
  · refine (cpU8_some x len cap zs w (by omega) hcell hlen).mono ?_
    rintro e w' ⟨cs, rfl, hat, hsz, hcs, hb⟩
    exact ⟨_, _, rfl, fun _ => ⟨w.heap.size, 0, rfl, fun i hi => by rw [hat.cell, Nat.zero_add]; exact hcs i hi⟩, hb⟩

/-- What the copy 'cpI32' hands back of a slice that is not nil. -/
def cpI32Post (len : Nat) (zs : List Int) (w : World) (e : Ending) (w' : World) : Prop :=
  ∃ cs, e = .returned (.slice (some ⟨w.heap.size, 0, none⟩) len len) ∧ At w' w.heap.size 21 cs ∧ cs.size = len ∧ (∀ i, i < len → cs[i]? = some (.int .i32 (zs.getD i 0))) ∧ Below w.heap.size w w'
def cpI32Rel (len : Nat) (zs : List Int) (w : World) (i : Value) (wr : World) : Prop :=
  ∃ (k : Nat) (cs : Array Value), k ≤ len ∧ i = .int .i64 k ∧ At wr w.heap.size 21 cs ∧ cs.size = len ∧ (∀ j, j < k → cs[j]? = some (.int .i32 (zs.getD j 0))) ∧ Below w.heap.size w wr
theorem cpI32_nil (w : World) : Calls Tryd.prog 14 #[.slice none 0 0] w fun e w' => e = .returned (.slice none 0 0) ∧ w = w' := by
  have qT : ∀ (w : World) (a : Option Addr) (n c n' c' : Nat), (binOp .eql 39 (.slice a n c) (.slice none n' c')).run Tryd.prog w = .ok (.bool a.isNone) w := fun w a n c n' c' => Lib.run_eql_slice_nil w 39 21 a n c n' c' Tryd.underlying39
  go_enter Tryd.func14, Tryd.ntmps14
  go_wp2_with fail
  go_ret
  exact ⟨rfl, rfl⟩
set_option maxRecDepth 100000 in
set_option maxHeartbeats 1000000 in
theorem cpI32_some (x : Addr) (len cap : Nat) (zs : List Int) (w : World) (hz : len ≤ zs.length) (hcell : ∀ i, i < zs.length → w.cell? (x.add i) = some (.int .i32 (zs.getD i 0))) (hlen : len ≤ 1048576) :
    Calls Tryd.prog 14 #[.slice (some x) len cap] w (cpI32Post len zs w) := by
  have qT : ∀ (w : World) (a : Option Addr) (n c n' c' : Nat), (binOp .eql 39 (.slice a n c) (.slice none n' c')).run Tryd.prog w = .ok (.bool a.isNone) w := fun w a n c n' c' => Lib.run_eql_slice_nil w 39 21 a n c n' c' Tryd.underlying39
  have hmk := made (P := Tryd.prog) (t := 39) (e := 21) (z := .int .i32 0) (sz := 1) (by_ := 4) Tryd.underlying39 (by kernel_rfl) w len (by omega) (by omega)
  rw [Nat.mul_one] at hmk
  have HC := Lib.hid hcell
  clear hcell
  go_enter Tryd.func14, Tryd.ntmps14
  go_wp2_with fail
  go_loopw [4] (fun i wr => cpI32Rel len zs w i wr) (fun i _ => len - (intOf i).toNat)
  case atStart => exact ⟨0, _, Nat.zero_le _, rfl, At.new _ _ _, by simp [size_madeCells, Value.cells], fun j hj => absurd hj (by omega), (Below.refl _ _).alloc (Nat.le_refl _) _⟩
  case round =>
    obtain ⟨k, cs, hk, rfl, hat, hsz, hcs, hb⟩ := hrel
    by_cases hlt : k < len
    · have hc := HC.out k (by omega)
      obtain ⟨b, off, rfl⟩ := spot_none (HC.out 0 (by omega))
      rw [add_none] at hc
      have hc1 : wr.cell? ⟨b, off + k, none⟩ = some (.int .i32 (zs.getD k 0)) := by
        exact kept hb hc
      have hd : wr.cell? ⟨w.heap.size, k, none⟩ = some cs[k] := by rw [hat.cell k]; simp [hsz, hlt]
      have hf := hat.frozen k
      clear hc
      have HAT := Lib.hid hat
      have HCS := Lib.hid hcs
      have HSZ := Lib.hid hsz
      clear hat hcs
      go_wp2_with fail
      go_roundw
      case rel =>
        refine ⟨k + 1, _, by omega, by go_num, HAT.out.set k _, by simp [HSZ.out], ?_, hb.setCell (Nat.le_refl _) _⟩
        intro j hj
        by_cases e : j = k
        · subst e; simp [HSZ.out, hlt]
        · rw [Array.getElem?_setIfInBounds_ne (by omega)]; exact HCS.out j (by omega)
      case measure => simp [intOf]; omega
    · have e : k = len := by omega
      subst e
      have HAT := Lib.hid hat
      have HCS := Lib.hid hcs
      have HSZ := Lib.hid hsz
      clear hat hcs hsz
      go_wp2_with fail
      go_ret
      exact ⟨cs, rfl, HAT.out, HSZ.out, HCS.out, hb⟩

theorem cpI32_any (a : Option Addr) (len cap : Nat) (zs : List Int) (w : World) (h : IsRow .i32 w a len cap zs) (hlen : len ≤ 1048576) :
    Calls Tryd.prog 14 #[.slice a len cap] w (ClonedV len (fun i => .int .i32 (zs.getD i 0)) w) := by
  rcases h with ⟨rfl, rfl, rfl, rfl⟩ | ⟨x, rfl, hl, hm, hz, hcell, hwz⟩
  · refine (cpI32_nil w).mono ?_
    rintro e w' ⟨rfl, rfl⟩
    exact ⟨none, 0, rfl, fun h => absurd h (by omega), Below.refl _ _⟩
  · refine (cpI32_some x len cap zs w (by omega) hcell hlen).mono ?_
    rintro e w' ⟨cs, rfl, hat, hsz, hcs, hb⟩
    exact ⟨_, _, rfl, fun _ => ⟨w.heap.size, 0, rfl, fun i hi => by rw [hat.cell, Nat.zero_add]; exact hcs i hi⟩, hb⟩

/-- The kind of a declaration by its code 0 .. 4. -/
def kOf (c : Int) : Int := if c = 0 then 0 else if c = 1 then 1 else if c = 2 then 2 else if c = 3 then 3 else 4
theorem kindOf (c : Int) (w : World) (h0 : 0 ≤ c) (h1 : c ≤ 5) : Calls Tryd.prog 21 #[.int .u8 c] w fun e w' => e = .returned (.int .u8 (kOf c)) ∧ w = w' := by
  have hc : c = 0 ∨ c = 1 ∨ c = 2 ∨ c = 3 ∨ c = 4 ∨ c = 5 := by omega
  rcases hc with rfl | rfl | rfl | rfl | rfl | rfl
  all_goals
    go_enter Tryd.func21, Tryd.ntmps21
    go_wp2_with fail
    go_ret
    exact ⟨rfl, rfl⟩
def isU (k : Int) : Bool := decide (3 ≤ k)
theorem isUsingK (k : Int) (w : World) (h0 : 0 ≤ k) (h1 : k ≤ 4) : Calls Tryd.prog 22 #[.int .u8 k] w fun e w' => e = .returned (.bool (isU k)) ∧ w = w' := by
  have hc : k = 0 ∨ k = 1 ∨ k = 2 ∨ k = 3 ∨ k = 4 := by omega
  rcases hc with rfl | rfl | rfl | rfl | rfl
  all_goals
    go_enter Tryd.func22, Tryd.ntmps22
    go_wp2_with fail
    go_ret
    exact ⟨rfl, rfl⟩
theorem isUsing (k : Int) (w : World) (h0 : 0 ≤ k) (h1 : k ≤ 4) : Calls Tryd.prog 36 #[.int .u8 k] w fun e w' => e = .returned (.bool (isU k)) ∧ w = w' := by
  have hc : k = 0 ∨ k = 1 ∨ k = 2 ∨ k = 3 ∨ k = 4 := by omega
  rcases hc with rfl | rfl | rfl | rfl | rfl
  all_goals
    go_enter Tryd.func36, Tryd.ntmps36
    go_wp2_with fail
    go_ret
    exact ⟨rfl, rfl⟩
/-- The kind that a lowered using declaration takes. -/
def kX (wrap pnil cl bundle minify : Bool) : Int := if cl then 0 else if pnil && (bundle || wrap) then 0 else if bundle && minify then 1 else 2
theorem expected (wrap pnil cl bundle minify : Bool) (w : World) : Calls Tryd.prog 20 #[.bool wrap, .bool pnil, .bool cl, .bool bundle, .bool minify] w fun e w' => e = .returned (.int .u8 (kX wrap pnil cl bundle minify)) ∧ w = w' := by
  cases wrap <;> cases pnil <;> cases cl <;> cases bundle <;> cases minify
  all_goals
    go_enter Tryd.func20, Tryd.ntmps20
    go_wp2_with fail
    go_ret
    exact ⟨rfl, rfl⟩
def StE (l : Int) (w : World) (e : Ending) (w' : World) : Prop := ∃ b, e = .returned (.agg #[.iface 264 (.pointer (some ⟨b, 0, none⟩)), .int .i32 l]) ∧ (w.heap.size + 1 ≤ b ∧ b < w'.heap.size) ∧ Below w.heap.size w w'
theorem emptyStmt (l : Int) (w : World) : Calls Tryd.prog 28 #[.int .i32 l] w (StE l w) := by
  go_enter Tryd.func28, Tryd.ntmps28
  go_wp2_with fail
  exact bodyPost_ret (v := .agg #[.iface 264 (.pointer (some ⟨w.heap.size + 1, 0, none⟩)), .int .i32 l]) (by simp [results, Tryd.results28, go_sem, *]) rfl ⟨_, rfl, by simp [World.setCell], (by repeat (first | with_reducible exact Below.refl _ _ | (with_reducible refine Below.drew ?_) | (with_reducible refine Below.alloc ?_ (by simp; try omega) _) | (with_reducible refine Below.setCell ?_ (by simp; try omega) _)))⟩
theorem localStmt (l : Int) (b : Nat) (w : World) : Calls Tryd.prog 29 #[.int .i32 l, .pointer (some ⟨b, 0, none⟩)] w fun e w' => e = .returned (.agg #[.iface 60 (.pointer (some ⟨b, 0, none⟩)), .int .i32 l]) ∧ Below w.heap.size w w' := by
  go_enter Tryd.func29, Tryd.ntmps29
  go_wp2_with fail
  exact bodyPost_ret (v := .agg #[.iface 60 (.pointer (some ⟨b, 0, none⟩)), .int .i32 l]) (by simp [results, Tryd.results29, go_sem, *]) rfl ⟨rfl, (by repeat (first | with_reducible exact Below.refl _ _ | (with_reducible refine Below.drew ?_) | (with_reducible refine Below.alloc ?_ (by simp; try omega) _) | (with_reducible refine Below.setCell ?_ (by simp; try omega) _)))⟩
theorem firstUsing (x : Nat) (l : Int) (w : World) (h : w.cell? ⟨x, 0, none⟩ = some (.int .i32 l)) : Calls Tryd.prog 23 #[.pointer (some ⟨x, 0, none⟩)] w fun e w' => e = .returned (.int .i32 l) ∧ w = w' := by
  go_enter Tryd.func23, Tryd.ntmps23
  go_wp2_with fail
  go_ret
  exact ⟨rfl, rfl⟩
theorem hasAwait (x : Nat) (b : Bool) (w : World) (h : w.cell? ⟨x, 3, none⟩ = some (.bool b)) : Calls Tryd.prog 24 #[.pointer (some ⟨x, 0, none⟩)] w fun e w' => e = .returned (.bool b) ∧ w = w' := by
  go_enter Tryd.func24, Tryd.ntmps24
  go_wp2_with fail
  go_ret
  exact ⟨rfl, rfl⟩
end Go.Proofs.YtjnffbnipjkibaaDoor
