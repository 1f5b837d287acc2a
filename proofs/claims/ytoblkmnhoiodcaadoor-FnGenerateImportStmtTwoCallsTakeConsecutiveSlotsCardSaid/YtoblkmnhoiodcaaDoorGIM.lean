/- Proved here: contracts of the law's small helpers. Conditions as stated. -/
import Derived.Test.YtoblkmnhoiodcaaDoorGIJ
import Derived.Test.YtoblkmnhoiodcaaDoorGIH
import Derived.WalkKit
import Derived.WalkSpells
import Derived.WalkLawsBesides
import Derived.Lib.Hide
import Derived.Lib.SliceRun
import Derived.Deep.RegionWith
import Derived.OwnWalk
import Derived.Laws.OwnMore
import Derived.BigRegion
import Derived.BigQuiet
import Derived.WideMake
namespace Go.Proofs.YtoblkmnhoiodcaaDoor
open Go.RowKit
set_option linter.unusedSimpArgs false
set_option linter.unusedVariables false
namespace GI
open IM IB
/-- A slice that reads as f at each index below len; nil where len is 0 is let in. -/
def RowV (w : World) (a : Option Addr) (len : Nat) (f : Nat → Value) : Prop :=
  0 < len → ∃ B off, a = some ⟨B, off, none⟩ ∧ ∀ i, i < len → w.cell? ⟨B, off + i, none⟩ = some (f i)
theorem RowV.below {w w' : World} {a : Option Addr} {len : Nat} {f : Nat → Value} (h : RowV w a len f) (hb : Below w.heap.size w w') : RowV w' a len f := fun hp => by
  obtain ⟨B, off, e, hc⟩ := h hp
  exact ⟨B, off, e, fun i hi => kept hb (hc i hi)⟩
def ClonedV (len : Nat) (f : Nat → Value) (w : World) (e : Ending) (w' : World) : Prop :=
  ∃ a' cap', e = .returned (.slice a' len cap') ∧ RowV w' a' len f ∧ Below w.heap.size w w'
theorem rowv_ints {k : IntKind} {w : World} {a : Option Addr} {len cap : Nat} {zs : List Int} (h : IsRow k w a len cap zs) : RowV w a len (fun i => .int k (zs.getD i 0)) := by
  intro hp
  rcases h with ⟨_, rfl, _⟩ | ⟨x, rfl, hl, hm, hz, hcell, _⟩
  · omega
  · obtain ⟨b, off, rfl⟩ := spot_none (hcell 0 (by omega))
    exact ⟨b, off, rfl, fun i hi => by rw [← add_none]; exact hcell i (by omega)⟩
theorem rowv_bools {w : World} {a : Option Addr} {len cap : Nat} {zs : List Bool} (h : IsBools w a len cap zs) : RowV w a len (fun i => .bool (zs.getD i false)) := by
  intro hp
  rcases h with ⟨_, rfl, _⟩ | ⟨x, rfl, hl, hm, hz, hcell⟩
  · omega
  · obtain ⟨b, off, rfl⟩ := spot_none (hcell 0 (by omega))
    exact ⟨b, off, rfl, fun i hi => by rw [← add_none]; exact hcell i (by omega)⟩
theorem rowv_strs {w : World} {a : Option Addr} {len cap : Nat} {zs : List ByteArray} (h : IsStrs w a len cap zs) : RowV w a len (fun i => .string (zs.getD i ByteArray.empty)) := by
  intro hp
  rcases h with ⟨_, rfl, _⟩ | ⟨x, rfl, hl, hm, hz, hcell, _⟩
  · omega
  · obtain ⟨b, off, rfl⟩ := spot_none (hcell 0 (by omega))
    exact ⟨b, off, rfl, fun i hi => by rw [← add_none]; exact hcell i (by omega)⟩
theorem len_ints {k : IntKind} {w : World} {a : Option Addr} {len cap : Nat} {zs : List Int} (h : IsRow k w a len cap zs) : len ≤ maxLen ∧ len ≤ zs.length ∧ ∀ i, (Lit.int k (zs.getD i 0)).wf = true ∨ zs.length ≤ i := by
  rcases h with ⟨_, rfl, _, rfl⟩ | ⟨x, rfl, hl, hm, hz, hcell, hw⟩
  · exact ⟨by unfold maxLen; omega, by simp, fun i => .inr (by simp)⟩
  · refine ⟨by omega, by omega, fun i => ?_⟩
    by_cases hi : i < zs.length
    · left; exact hw _ (by simp [List.getD, hi])
    · right; omega
theorem len_bools {w : World} {a : Option Addr} {len cap : Nat} {zs : List Bool} (h : IsBools w a len cap zs) : len ≤ maxLen := by
  rcases h with ⟨_, rfl, _, rfl⟩ | ⟨x, rfl, hl, hm, hz, hcell⟩
  · unfold maxLen; omega
  · omega
theorem len_strs {w : World} {a : Option Addr} {len cap : Nat} {zs : List ByteArray} (h : IsStrs w a len cap zs) : len ≤ maxLen ∧ ∀ i, (zs.getD i ByteArray.empty).size ≤ maxLen := by
  rcases h with ⟨_, rfl, _, rfl⟩ | ⟨x, rfl, hl, hm, hz, hcell, hw⟩
  · exact ⟨by unfold maxLen; omega, fun i => by simp⟩
  · refine ⟨by omega, fun i => ?_⟩
    by_cases hi : i < zs.length
    · exact hw _ (by simp [List.getD, hi])
    · simp [List.getD, hi]


/-- What the copy 'cpS' hands back of a slice that is not nil. -/
def cpSPost (len : Nat) (zs : List ByteArray) (w : World) (e : Ending) (w' : World) : Prop :=
  ∃ cs, e = .returned (.slice (some ⟨w.heap.size, 0, none⟩) len len) ∧ At w' w.heap.size 9 cs ∧ cs.size = len ∧ (∀ i, i < len → cs[i]? = some (.string (zs.getD i ByteArray.empty))) ∧ Below w.heap.size w w'
def cpSRel (len : Nat) (zs : List ByteArray) (w : World) (i : Value) (wr : World) : Prop :=
  ∃ (k : Nat) (cs : Array Value), k ≤ len ∧ i = .int .i64 k ∧ At wr w.heap.size 9 cs ∧ cs.size = len ∧ (∀ j, j < k → cs[j]? = some (.string (zs.getD j ByteArray.empty))) ∧ Below w.heap.size w wr
theorem cpS_nil (w : World) : Calls Tryd.prog 7 #[.slice none 0 0] w fun e w' => e = .returned (.slice none 0 0) ∧ w = w' := by
  have qT : ∀ (w : World) (a : Option Addr) (n c n' c' : Nat), (binOp .eql 22 (.slice a n c) (.slice none n' c')).run Tryd.prog w = .ok (.bool a.isNone) w := fun w a n c n' c' => Lib.run_eql_slice_nil w 22 9 a n c n' c' Tryd.underlying22
  go_enter Tryd.func7, Tryd.ntmps7
  go_wp2_with fail
  go_ret
  exact ⟨rfl, rfl⟩
set_option maxRecDepth 100000 in
set_option maxHeartbeats 1000000 in
theorem cpS_some (x : Addr) (len cap : Nat) (zs : List ByteArray) (w : World) (hz : len ≤ zs.length) (hcell : ∀ i, i < zs.length → w.cell? (x.add i) = some (.string (zs.getD i ByteArray.empty))) (hlen : len ≤ 1048576) :
    Calls Tryd.prog 7 #[.slice (some x) len cap] w (cpSPost len zs w) := by
  have qT : ∀ (w : World) (a : Option Addr) (n c n' c' : Nat), (binOp .eql 22 (.slice a n c) (.slice none n' c')).run Tryd.prog w = .ok (.bool a.isNone) w := fun w a n c n' c' => Lib.run_eql_slice_nil w 22 9 a n c n' c' Tryd.underlying22
  have hmk := made (P := Tryd.prog) (t := 22) (e := 9) (z := .string ⟨#[]⟩) (sz := 1) (by_ := 16) Tryd.underlying22 (by kernel_rfl) w len (by omega) (by omega)
  rw [Nat.mul_one] at hmk
  have HC := Lib.hid hcell
  clear hcell
  go_enter Tryd.func7, Tryd.ntmps7
  go_wp2_with fail
  go_loopw [4] (fun i wr => cpSRel len zs w i wr) (fun i _ => len - (intOf i).toNat)
  case atStart => exact ⟨0, _, Nat.zero_le _, rfl, At.new _ _ _, by simp [size_madeCells, Value.cells], fun j hj => absurd hj (by omega), (Below.refl _ _).alloc (Nat.le_refl _) _⟩
  case round =>
    obtain ⟨k, cs, hk, rfl, hat, hsz, hcs, hb⟩ := hrel
    by_cases hlt : k < len
    · have hc := HC.out k (by omega)
      obtain ⟨b, off, rfl⟩ := spot_none (HC.out 0 (by omega))
      rw [add_none] at hc
      have hc1 : wr.cell? ⟨b, off + k, none⟩ = some (.string (zs.getD k ByteArray.empty)) := by
        exact kept hb hc
      have hd : wr.cell? ⟨w.heap.size, k, none⟩ = some cs[k] := by rw [hat.cell k]; simp [hsz, hlt]
      have hf := hat.frozen k
      clear hc
      have HAT := Lib.hid hat
      have HCS := Lib.hid hcs
      have HSZ := Lib.hid hsz
      clear hat hcs
      go_wp2_with fail
      go_roundw
      case rel =>
        refine ⟨k + 1, _, by omega, by go_num, HAT.out.set k _, by simp [HSZ.out], ?_, hb.setCell (Nat.le_refl _) _⟩
        intro j hj
        by_cases e : j = k
        · subst e; simp [HSZ.out, hlt]
        · rw [Array.getElem?_setIfInBounds_ne (by omega)]; exact HCS.out j (by omega)
      case measure => simp [intOf]; omega
    · have e : k = len := by omega
      subst e
      have HAT := Lib.hid hat
      have HCS := Lib.hid hcs
      have HSZ := Lib.hid hsz
      clear hat hcs hsz
      go_wp2_with fail
      go_ret
      exact ⟨cs, rfl, HAT.out, HSZ.out, HCS.out, hb⟩

/-- What the copy 'cpI' hands back of a slice that is not nil. -/
def cpIPost (len : Nat) (zs : List Int) (w : World) (e : Ending) (w' : World) : Prop :=
  ∃ cs, e = .returned (.slice (some ⟨w.heap.size, 0, none⟩) len len) ∧ At w' w.heap.size 21 cs ∧ cs.size = len ∧ (∀ i, i < len → cs[i]? = some (.int .i32 (zs.getD i 0))) ∧ Below w.heap.size w w'
def cpIRel (len : Nat) (zs : List Int) (w : World) (i : Value) (wr : World) : Prop :=
  ∃ (k : Nat) (cs : Array Value), k ≤ len ∧ i = .int .i64 k ∧ At wr w.heap.size 21 cs ∧ cs.size = len ∧ (∀ j, j < k → cs[j]? = some (.int .i32 (zs.getD j 0))) ∧ Below w.heap.size w wr
theorem cpI_nil (w : World) : Calls Tryd.prog 8 #[.slice none 0 0] w fun e w' => e = .returned (.slice none 0 0) ∧ w = w' := by
  have qT : ∀ (w : World) (a : Option Addr) (n c n' c' : Nat), (binOp .eql 23 (.slice a n c) (.slice none n' c')).run Tryd.prog w = .ok (.bool a.isNone) w := fun w a n c n' c' => Lib.run_eql_slice_nil w 23 21 a n c n' c' Tryd.underlying23
  go_enter Tryd.func8, Tryd.ntmps8
  go_wp2_with fail
  go_ret
  exact ⟨rfl, rfl⟩
set_option maxRecDepth 100000 in
set_option maxHeartbeats 1000000 in
theorem cpI_some (x : Addr) (len cap : Nat) (zs : List Int) (w : World) (hz : len ≤ zs.length) (hcell : ∀ i, i < zs.length → w.cell? (x.add i) = some (.int .i32 (zs.getD i 0))) (hlen : len ≤ 1048576) :
    Calls Tryd.prog 8 #[.slice (some x) len cap] w (cpIPost len zs w) := by
  have qT : ∀ (w : World) (a : Option Addr) (n c n' c' : Nat), (binOp .eql 23 (.slice a n c) (.slice none n' c')).run Tryd.prog w = .ok (.bool a.isNone) w := fun w a n c n' c' => Lib.run_eql_slice_nil w 23 21 a n c n' c' Tryd.underlying23
  have hmk := made (P := Tryd.prog) (t := 23) (e := 21) (z := .int .i32 0) (sz := 1) (by_ := 4) Tryd.underlying23 (by kernel_rfl) w len (by omega) (by omega)
  rw [Nat.mul_one] at hmk
  have HC := Lib.hid hcell
  clear hcell
  go_enter Tryd.func8, Tryd.ntmps8
  go_wp2_with fail
  go_loopw [4] (fun i wr => cpIRel len zs w i wr) (fun i _ => len - (intOf i).toNat)
  case atStart => exact ⟨0, _, Nat.zero_le _, rfl, At.new _ _ _, by simp [size_madeCells, Value.cells], fun j hj => absurd hj (by omega), (Below.refl _ _).alloc (Nat.le_refl _) _⟩
  case round =>
    obtain ⟨k, cs, hk, rfl, hat, hsz, hcs, hb⟩ := hrel
    by_cases hlt : k < len
    · have hc := HC.out k (by omega)
      obtain ⟨b, off, rfl⟩ := spot_none (HC.out 0 (by omega))
      rw [add_none] at hc
      have hc1 : wr.cell? ⟨b, off + k, none⟩ = some (.int .i32 (zs.getD k 0)) := by
        exact kept hb hc
      have hd : wr.cell? ⟨w.heap.size, k, none⟩ = some cs[k] := by rw [hat.cell k]; simp [hsz, hlt]
      have hf := hat.frozen k
      clear hc
      have HAT := Lib.hid hat
      have HCS := Lib.hid hcs
      have HSZ := Lib.hid hsz
      clear hat hcs
      go_wp2_with fail
      go_roundw
      case rel =>
        refine ⟨k + 1, _, by omega, by go_num, HAT.out.set k _, by simp [HSZ.out], ?_, hb.setCell (Nat.le_refl _) _⟩
        intro j hj
        by_cases e : j = k
        · subst e; simp [HSZ.out, hlt]
        · rw [Array.getElem?_setIfInBounds_ne (by omega)]; exact HCS.out j (by omega)
      case measure => simp [intOf]; omega
    · have e : k = len := by omega
      subst e
      have HAT := Lib.hid hat
      have HCS := Lib.hid hcs
      have HSZ := Lib.hid hsz
      clear hat hcs hsz
      go_wp2_with fail
      go_ret
      exact ⟨cs, rfl, HAT.out, HSZ.out, HCS.out, hb⟩

/-- A copy of a list of strings. -/
def ClonedS (len : Nat) (zs : List ByteArray) (w : World) (e : Ending) (w' : World) : Prop :=
  ∃ a c, e = .returned (.slice a len c) ∧ (len = 0 ∨ ∃ ib cs, a = some ⟨ib, 0, none⟩ ∧ At w' ib 9 cs ∧ w.heap.size ≤ ib ∧ len ≤ c ∧ ∀ i, i < len → cs[i]? = some (.string (zs.getD i ByteArray.empty))) ∧ Below w.heap.size w w'
theorem cpS_any (a : Option Addr) (len cap : Nat) (zs : List ByteArray) (w : World) (h : IsStrs w a len cap zs) (hlen : len ≤ 1048576) : Calls Tryd.prog 7 #[.slice a len cap] w (ClonedS len zs w) := by
  rcases h with ⟨rfl, rfl, rfl, rfl⟩ | ⟨x, rfl, hl, hm, hz, hcell, hwz⟩
  · refine (cpS_nil w).mono ?_
    rintro e w' ⟨rfl, rfl⟩
    exact ⟨none, 0, rfl, .inl rfl, Below.refl _ _⟩
  · refine (cpS_some x len cap zs w (by omega) hcell hlen).mono ?_
    rintro e w' ⟨cs, rfl, hat, hsz, hcs, hb⟩
    exact ⟨_, _, rfl, .inr ⟨_, cs, rfl, hat, Nat.le_refl _, Nat.le_refl _, hcs⟩, hb⟩
theorem cpI_any (a : Option Addr) (len cap : Nat) (zs : List Int) (w : World) (h : IsRow .i32 w a len cap zs) (hlen : len ≤ 1048576) : Calls Tryd.prog 8 #[.slice a len cap] w (ClonedV len (fun i => .int .i32 (zs.getD i 0)) w) := by
  rcases h with ⟨rfl, rfl, rfl, rfl⟩ | ⟨x, rfl, hl, hm, hz, hcell, hwz⟩
  · refine (cpI_nil w).mono ?_
    rintro e w' ⟨rfl, rfl⟩
    exact ⟨none, 0, rfl, fun h => absurd h (by omega), Below.refl _ _⟩
  · refine (cpI_some x len cap zs w (by omega) hcell hlen).mono ?_
    rintro e w' ⟨cs, rfl, hat, hsz, hcs, hb⟩
    exact ⟨_, _, rfl, fun _ => ⟨w.heap.size, 0, rfl, fun i hi => by rw [hat.cell, Nat.zero_add]; exact hcs i hi⟩, hb⟩
def locA (len : Nat) (zs : List Int) (i : Nat) : Int := if i < len then zs.getD i 0 else 0
theorem locAt (a : Option Addr) (len cap : Nat) (zs : List Int) (i : Nat) (w : World) (h : RowV w a len (fun i => .int .i32 (zs.getD i 0))) (hi : i ≤ 1048576) (hl : len ≤ 1048576) : Calls Tryd.prog 9 #[.slice a len cap, .int .i64 i] w fun e w' => e = .returned (.int .i32 (locA len zs i)) ∧ w = w' := by
  by_cases hlt : i < len
  · obtain ⟨B, off, rfl, hc⟩ := h (by omega)
    have hc1 : w.cell? ⟨B, off + i, none⟩ = some (.int .i32 (zs.getD i 0)) := hc i hlt
    obtain ⟨v, hv⟩ : ∃ v, v = zs.getD i 0 := ⟨_, rfl⟩
    rw [← hv] at hc1
    have h0 : (0 : Int) ≤ (i : Int) := Int.natCast_nonneg _
    have h1 : (i : Int) < (len : Int) := by omega
    have HE := Lib.hid (show locA len zs i = v from (if_pos hlt).trans hv.symm)
    clear hc hlt h hv
    go_enter Tryd.func9, Tryd.ntmps9
    go_wp2_with fail
    go_ret
    exact ⟨by rw [HE.out]; rfl, rfl⟩
  · have HE := Lib.hid (show locA len zs i = 0 from if_neg hlt)
    have h1 : ¬ (i : Int) < (len : Int) := by omega
    clear hlt h
    go_enter Tryd.func9, Tryd.ntmps9
    go_wp2_with fail
    go_ret
    exact ⟨by rw [HE.out]; rfl, rfl⟩
/-- The strings' sizes, added up: some number that is not too great. -/
def SBP (w : World) (e : Ending) (w' : World) : Prop := ∃ t : Int, e = .returned (.int .i64 t) ∧ 0 ≤ t ∧ t ≤ 20000000 ∧ w = w'
set_option maxRecDepth 100000 in
theorem strBytes (a : Option Addr) (len cap : Nat) (zs : List ByteArray) (w : World) (h : RowV w a len (fun i => .string (zs.getD i ByteArray.empty))) (hl : len ≤ 1048576) (hs : ∀ i, i < len → (zs.getD i ByteArray.empty).size ≤ 1048576) : Calls Tryd.prog 6 #[.slice a len cap] w (SBP w) := by
  have HS := Lib.hid hs
  clear hs
  have hl0 : (0 : Int) ≤ (len : Int) := Int.natCast_nonneg _
  have hl1 : (len : Int) ≤ 1048576 := by omega
  go_enter Tryd.func6, Tryd.ntmps6
  go_wp2_with fail
  go_loop [3, 4] (fun t i => ∃ (k : Nat) (z : Int), k ≤ len ∧ i = .int .i64 k ∧ t = .int .i64 z ∧ 0 ≤ z ∧ (k = 0 ∧ z ≤ 16777216 ∨ 0 < k ∧ z ≤ 1048576)) (fun _ i => len - (intOf i).toNat)
  case atStart => exact ⟨0, 16 * (len : Int), Nat.zero_le _, rfl, by first | rfl | go_num, by omega, .inl ⟨rfl, by omega⟩⟩
  case round =>
    obtain ⟨k, z, hk, rfl, rfl, hz0, hz1⟩ := hrel
    have hz2 : z ≤ 16777216 := by omega
    have HK := Lib.hid hz1
    clear hz1
    by_cases hlt : k < len
    · obtain ⟨B, off, rfl, hc⟩ := h (by omega)
      have hc1 : w.cell? ⟨B, off + k, none⟩ = some (.string (zs.getD k ByteArray.empty)) := hc k hlt
      have hsz := HS.out k hlt
      obtain ⟨s, hss⟩ : ∃ s, s = zs.getD k ByteArray.empty := ⟨_, rfl⟩
      rw [← hss] at hc1 hsz
      have h0 : (0 : Int) ≤ (k : Int) := Int.natCast_nonneg _
      have h1 : (k : Int) < (len : Int) := by omega
      clear hc hss
      by_cases hg : z + (s.size : Int) ≤ 1048576
      · have hg' : ¬ 1048576 < z + (s.size : Int) := by omega
        go_wp2_with fail
        go_round
        case rel => exact ⟨k + 1, z + (s.size : Int), by omega, by go_num, rfl, by omega, .inr ⟨by omega, by omega⟩⟩
        case measure => simp [intOf]; omega
      · have hg' : 1048576 < z + (s.size : Int) := by omega
        go_wp2_with fail
        go_ret
        exact ⟨_, rfl, by omega, by omega, rfl⟩
    · have h1 : ¬ (k : Int) < (len : Int) := by omega
      clear h
      go_wp2_with fail
      go_ret
      exact ⟨z, rfl, by omega, by omega, rfl⟩

def ZB5 (ps len1 len2 : Nat) (zs : List ByteArray) (w : World) (e : Ending) (w' : World) : Prop := ∃ b, e = .returned (.bool b) ∧ (b = true → ps ≤ 1048576 ∧ len1 ≤ 1048576 ∧ (∀ i, i < len1 → (zs.getD i ByteArray.empty).size ≤ 1048576) ∧ len2 ≤ 1048576) ∧ w = w'
set_option maxRecDepth 100000 in
set_option maxHeartbeats 4000000 in
theorem zb5 (path : ByteArray) (a1 a2 : Option Addr) (len1 cap1 len2 cap2 : Nat) (zs : List ByteArray) (x3 x4 x6 x8 x9 x10 : Int) (x5 x7 : Bool) (w : World) (hp : path.size ≤ maxLen) (h : RowV w a1 len1 (fun i => .string (zs.getD i ByteArray.empty))) (h1 : len1 ≤ maxLen) (h2 : len2 ≤ maxLen) (hs : ∀ i, (zs.getD i ByteArray.empty).size ≤ maxLen) :
    Calls Tryd.prog 5 #[.string path, .slice a1 len1 cap1, .slice a2 len2 cap2, .int .i32 x3, .int .i32 x4, .bool x5, .int .u32 x6, .bool x7, .int .u32 x8, .int .i64 x9, .int .i64 x10] w (ZB5 path.size len1 len2 zs w) := by
  unfold maxLen at hp h1 h2 hs
  have HS := Lib.hid hs
  clear hs
  have l0 : (0 : Int) ≤ (len1 : Int) := Int.natCast_nonneg _
  have l2 : (0 : Int) ≤ (len2 : Int) := Int.natCast_nonneg _
  have p0 : (0 : Int) ≤ (path.size : Int) := Int.natCast_nonneg _
  have l1' : (len1 : Int) ≤ 9223372036854775807 := by omega
  have l2' : (len2 : Int) ≤ 9223372036854775807 := by omega
  have p0' : (path.size : Int) ≤ 9223372036854775807 := by omega
  by_cases c1 : (path.size : Int) ≤ 1048576
  · by_cases c2 : (len1 : Int) ≤ 1048576
    · by_cases c3 : (path.size : Int) + (len1 : Int) ≤ 1048576
      · have d1 : ¬ 1048576 < (path.size : Int) := by omega
        have d2 : ¬ 1048576 < (len1 : Int) := by omega
        have d3 : ¬ 1048576 < (path.size : Int) + (len1 : Int) := by omega
        go_enter Tryd.func5, Tryd.ntmps5
        go_wp2_with fail
        go_loop [23, 24] (fun t i => ∃ (k : Nat) (z : Int), k ≤ len1 ∧ i = .int .i64 k ∧ t = .int .i64 z ∧ 0 ≤ z ∧ z ≤ 1048576 ∧ Hid (∀ i, i < k → (zs.getD i ByteArray.empty).size ≤ 1048576)) (fun _ i => len1 - (intOf i).toNat)
        case atStart => exact ⟨0, _, Nat.zero_le _, rfl, rfl, by omega, by omega, Lib.hid (fun i hi => absurd hi (by omega))⟩
        case round =>
          obtain ⟨k, z, hk, rfl, rfl, hz0, hz1, HK⟩ := hrel
          by_cases hlt : k < len1
          · obtain ⟨B, off, rfl, hc⟩ := h (by omega)
            have hc1 : w.cell? ⟨B, off + k, none⟩ = some (.string (zs.getD k ByteArray.empty)) := hc k hlt
            have hsz := HS.out k
            obtain ⟨s, hss⟩ : ∃ s, s = zs.getD k ByteArray.empty := ⟨_, rfl⟩
            rw [← hss] at hc1 hsz
            have HE := Lib.hid hss
            have s0 : (0 : Int) ≤ (s.size : Int) := Int.natCast_nonneg _
            have s1 : (s.size : Int) ≤ 9223372036854775807 := by omega
            have i0 : (0 : Int) ≤ (k : Int) := Int.natCast_nonneg _
            have i1 : (k : Int) < (len1 : Int) := by omega
            clear hc hss hsz
            by_cases g1 : (s.size : Int) ≤ 1048576
            · have g1' : ¬ 1048576 < (s.size : Int) := by omega
              by_cases g2 : z + (s.size : Int) ≤ 1048576
              · have g2' : ¬ 1048576 < z + (s.size : Int) := by omega
                go_wp2_with fail
                go_round
                case rel =>
                  refine ⟨k + 1, _, by omega, by go_num, rfl, by omega, by omega, Lib.hid (fun j hj => ?_)⟩
                  by_cases e : j = k
                  · rw [e, ← HE.out]; omega
                  · exact HK.out j (by omega)
                case measure => simp [intOf]; omega
              · have g2' : 1048576 < z + (s.size : Int) := by omega
                go_wp2_with fail
                go_ret
                exact ⟨false, rfl, (fun h => by cases h), rfl⟩
            · have g1' : 1048576 < (s.size : Int) := by omega
              go_wp2_with fail
              go_ret
              exact ⟨false, rfl, (fun h => by cases h), rfl⟩
          · have e : ¬ (k : Int) < (len1 : Int) := by omega
            have HL := Lib.hid (show ∀ i, i < len1 → (zs.getD i ByteArray.empty).size ≤ 1048576 from fun i hi => HK.out i (by omega))
            clear h
            by_cases g1 : (len2 : Int) ≤ 1048576
            · have g1' : ¬ 1048576 < (len2 : Int) := by omega
              by_cases g2 : z + (len2 : Int) ≤ 1048576
              · have g2' : ¬ 1048576 < z + (len2 : Int) := by omega
                go_wp2_with fail
                go_ret
                exact ⟨true, rfl, (fun _ => ⟨by omega, by omega, HL.out, by omega⟩), rfl⟩
              · have g2' : 1048576 < z + (len2 : Int) := by omega
                go_wp2_with fail
                go_ret
                exact ⟨false, rfl, (fun h => by cases h), rfl⟩
            · have g1' : 1048576 < (len2 : Int) := by omega
              go_wp2_with fail
              go_ret
              exact ⟨false, rfl, (fun h => by cases h), rfl⟩
      · have d1 : ¬ 1048576 < (path.size : Int) := by omega
        have d2 : ¬ 1048576 < (len1 : Int) := by omega
        have d3 : 1048576 < (path.size : Int) + (len1 : Int) := by omega
        go_enter Tryd.func5, Tryd.ntmps5
        go_wp2_with fail
        go_ret
        exact ⟨false, rfl, (fun h => by cases h), rfl⟩
    · have d1 : ¬ 1048576 < (path.size : Int) := by omega
      have d2 : 1048576 < (len1 : Int) := by omega
      go_enter Tryd.func5, Tryd.ntmps5
      go_wp2_with fail
      go_ret
      exact ⟨false, rfl, (fun h => by cases h), rfl⟩
  · have d1 : 1048576 < (path.size : Int) := by omega
    go_enter Tryd.func5, Tryd.ntmps5
    go_wp2_with fail
    go_ret
    exact ⟨false, rfl, (fun h => by cases h), rfl⟩

def ZB19 (ps1 ps2 len1 len2 : Nat) (z1 z2 : List ByteArray) (w : World) (e : Ending) (w' : World) : Prop := ∃ b, e = .returned (.bool b) ∧ (b = true → ps1 ≤ 1048576 ∧ ps2 ≤ 1048576 ∧ len1 ≤ 1048576 ∧ len2 ≤ 1048576 ∧ (∀ i, i < len1 → (z1.getD i ByteArray.empty).size ≤ 1048576) ∧ (∀ i, i < len2 → (z2.getD i ByteArray.empty).size ≤ 1048576)) ∧ w = w'
set_option maxRecDepth 100000 in
set_option maxHeartbeats 4000000 in
theorem zb19 (p1 p2 : ByteArray) (a1 a2 : Option Addr) (len1 cap1 len2 cap2 : Nat) (z1 z2 : List ByteArray) (x4 x5 : Int) (w : World) (hp1 : p1.size ≤ maxLen) (hp2 : p2.size ≤ maxLen) (h1 : RowV w a1 len1 (fun i => .string (z1.getD i ByteArray.empty))) (h2 : RowV w a2 len2 (fun i => .string (z2.getD i ByteArray.empty))) (hl1 : len1 ≤ maxLen) (hl2 : len2 ≤ maxLen) (hs1 : ∀ i, (z1.getD i ByteArray.empty).size ≤ maxLen) (hs2 : ∀ i, (z2.getD i ByteArray.empty).size ≤ maxLen) :
    Calls Tryd.prog 19 #[.string p1, .string p2, .slice a1 len1 cap1, .slice a2 len2 cap2, .int .i64 x4, .int .i64 x5] w (ZB19 p1.size p2.size len1 len2 z1 z2 w) := by
  unfold maxLen at hp1 hp2 hl1 hl2 hs1 hs2
  have HS1 := Lib.hid hs1
  have HS2 := Lib.hid hs2
  clear hs1 hs2
  have l0 : (0 : Int) ≤ (len1 : Int) := Int.natCast_nonneg _
  have l2 : (0 : Int) ≤ (len2 : Int) := Int.natCast_nonneg _
  have p0 : (0 : Int) ≤ (p1.size : Int) := Int.natCast_nonneg _
  have q0 : (0 : Int) ≤ (p2.size : Int) := Int.natCast_nonneg _
  have l1' : (len1 : Int) ≤ 9223372036854775807 := by omega
  have l2' : (len2 : Int) ≤ 9223372036854775807 := by omega
  have p0' : (p1.size : Int) ≤ 9223372036854775807 := by omega
  have q0' : (p2.size : Int) ≤ 9223372036854775807 := by omega
  by_cases c1 : (p1.size : Int) ≤ 1048576
  · have c1' : ¬ 1048576 < (p1.size : Int) := by omega
    by_cases c2 : (p2.size : Int) ≤ 1048576
    · have c2' : ¬ 1048576 < (p2.size : Int) := by omega
      by_cases c2b : (p1.size : Int) + (p2.size : Int) ≤ 1048576
      · have c2b' : ¬ 1048576 < (p1.size : Int) + (p2.size : Int) := by omega
        by_cases c3 : (len1 : Int) ≤ 1048576
        · have c3' : ¬ 1048576 < (len1 : Int) := by omega
          by_cases c4 : (p1.size : Int) + (p2.size : Int) + (len1 : Int) ≤ 1048576
          · have c4' : ¬ 1048576 < (p1.size : Int) + (p2.size : Int) + (len1 : Int) := by omega
            go_enter Tryd.func19, Tryd.ntmps19
            go_wp2_with fail
            go_loop [13, 14] (fun t i => ∃ (k : Nat) (z : Int), k ≤ len1 ∧ i = .int .i64 k ∧ t = .int .i64 z ∧ 0 ≤ z ∧ z ≤ 1048576 ∧ Hid (∀ i, i < k → (z1.getD i ByteArray.empty).size ≤ 1048576)) (fun _ i => len1 - (intOf i).toNat)
            case atStart => exact ⟨0, _, Nat.zero_le _, rfl, rfl, by omega, by omega, Lib.hid (fun i hi => absurd hi (by omega))⟩
            case round =>
              obtain ⟨k, y1, hk1, rfl, rfl, hz01, hz11, HK1⟩ := hrel
              by_cases hlt : k < len1
              · obtain ⟨B, off, rfl, hc⟩ := h1 (by omega)
                have hc1 : w.cell? ⟨B, off + k, none⟩ = some (.string (z1.getD k ByteArray.empty)) := hc k hlt
                have hsz := HS1.out k
                obtain ⟨s, hss⟩ : ∃ s, s = z1.getD k ByteArray.empty := ⟨_, rfl⟩
                rw [← hss] at hc1 hsz
                have HE := Lib.hid hss
                have s0 : (0 : Int) ≤ (s.size : Int) := Int.natCast_nonneg _
                have s1 : (s.size : Int) ≤ 9223372036854775807 := by omega
                have i0 : (0 : Int) ≤ (k : Int) := Int.natCast_nonneg _
                have i1 : (k : Int) < (len1 : Int) := by omega
                clear hc hss hsz
                by_cases g1 : (s.size : Int) ≤ 1048576
                · have g1' : ¬ 1048576 < (s.size : Int) := by omega
                  by_cases g2 : y1 + (s.size : Int) ≤ 1048576
                  · have g2' : ¬ 1048576 < y1 + (s.size : Int) := by omega
                    go_wp2_with fail
                    go_round
                    case rel =>
                      refine ⟨k + 1, _, by omega, by go_num, rfl, by omega, by omega, Lib.hid (fun j hj => ?_)⟩
                      by_cases e : j = k
                      · rw [e, ← HE.out]; omega
                      · exact HK1.out j (by omega)
                    case measure => simp [intOf]; omega
                  · have g2' : 1048576 < y1 + (s.size : Int) := by omega
                    go_wp2_with fail
                    go_ret
                    exact ⟨false, rfl, (fun h => by cases h), rfl⟩
                · have g1' : 1048576 < (s.size : Int) := by omega
                  go_wp2_with fail
                  go_ret
                  exact ⟨false, rfl, (fun h => by cases h), rfl⟩
              · have e1 : ¬ (k : Int) < (len1 : Int) := by omega
                have HL1 := Lib.hid (show ∀ i, i < len1 → (z1.getD i ByteArray.empty).size ≤ 1048576 from fun i hi => HK1.out i (by omega))
                clear h1
                by_cases c5 : (len2 : Int) ≤ 1048576
                · have c5' : ¬ 1048576 < (len2 : Int) := by omega
                  by_cases c6 : y1 + (len2 : Int) ≤ 1048576
                  · have c6' : ¬ 1048576 < y1 + (len2 : Int) := by omega
                    go_wp2_with fail
                    go_loop [13, 15] (fun t i => ∃ (k : Nat) (z : Int), k ≤ len2 ∧ i = .int .i64 k ∧ t = .int .i64 z ∧ 0 ≤ z ∧ z ≤ 1048576 ∧ Hid (∀ i, i < k → (z2.getD i ByteArray.empty).size ≤ 1048576)) (fun _ i => len2 - (intOf i).toNat)
                    case atStart => exact ⟨0, _, Nat.zero_le _, rfl, rfl, by omega, by omega, Lib.hid (fun i hi => absurd hi (by omega))⟩
                    case round =>
                      obtain ⟨k, y2, hk2, rfl, rfl, hz02, hz12, HK2⟩ := hrel
                      by_cases hlt : k < len2
                      · obtain ⟨B, off, rfl, hc⟩ := h2 (by omega)
                        have hc1 : w.cell? ⟨B, off + k, none⟩ = some (.string (z2.getD k ByteArray.empty)) := hc k hlt
                        have hsz := HS2.out k
                        obtain ⟨s, hss⟩ : ∃ s, s = z2.getD k ByteArray.empty := ⟨_, rfl⟩
                        rw [← hss] at hc1 hsz
                        have HE := Lib.hid hss
                        have s0 : (0 : Int) ≤ (s.size : Int) := Int.natCast_nonneg _
                        have s1 : (s.size : Int) ≤ 9223372036854775807 := by omega
                        have i0 : (0 : Int) ≤ (k : Int) := Int.natCast_nonneg _
                        have i1 : (k : Int) < (len2 : Int) := by omega
                        clear hc hss hsz
                        by_cases g1 : (s.size : Int) ≤ 1048576
                        · have g1' : ¬ 1048576 < (s.size : Int) := by omega
                          by_cases g2 : y2 + (s.size : Int) ≤ 1048576
                          · have g2' : ¬ 1048576 < y2 + (s.size : Int) := by omega
                            go_wp2_with fail
                            go_round
                            case rel =>
                              refine ⟨k + 1, _, by omega, by go_num, rfl, by omega, by omega, Lib.hid (fun j hj => ?_)⟩
                              by_cases e : j = k
                              · rw [e, ← HE.out]; omega
                              · exact HK2.out j (by omega)
                            case measure => simp [intOf]; omega
                          · have g2' : 1048576 < y2 + (s.size : Int) := by omega
                            go_wp2_with fail
                            go_ret
                            exact ⟨false, rfl, (fun h => by cases h), rfl⟩
                        · have g1' : 1048576 < (s.size : Int) := by omega
                          go_wp2_with fail
                          go_ret
                          exact ⟨false, rfl, (fun h => by cases h), rfl⟩
                      · have e2 : ¬ (k : Int) < (len2 : Int) := by omega
                        have HL2 := Lib.hid (show ∀ i, i < len2 → (z2.getD i ByteArray.empty).size ≤ 1048576 from fun i hi => HK2.out i (by omega))
                        clear h2
                        go_wp2_with fail
                        go_ret
                        exact ⟨true, rfl, (fun _ => ⟨by omega, by omega, by omega, by omega, HL1.out, HL2.out⟩), rfl⟩
                  · have c6' : 1048576 < y1 + (len2 : Int) := by omega
                    go_wp2_with fail
                    go_ret
                    exact ⟨false, rfl, (fun h => by cases h), rfl⟩
                · have c5' : 1048576 < (len2 : Int) := by omega
                  go_wp2_with fail
                  go_ret
                  exact ⟨false, rfl, (fun h => by cases h), rfl⟩
          · have c4' : 1048576 < (p1.size : Int) + (p2.size : Int) + (len1 : Int) := by omega
            go_enter Tryd.func19, Tryd.ntmps19
            go_wp2_with fail
            go_ret
            exact ⟨false, rfl, (fun h => by cases h), rfl⟩
        · have c3' : 1048576 < (len1 : Int) := by omega
          go_enter Tryd.func19, Tryd.ntmps19
          go_wp2_with fail
          go_ret
          exact ⟨false, rfl, (fun h => by cases h), rfl⟩
      · have c2b' : 1048576 < (p1.size : Int) + (p2.size : Int) := by omega
        go_enter Tryd.func19, Tryd.ntmps19
        go_wp2_with fail
        go_ret
        exact ⟨false, rfl, (fun h => by cases h), rfl⟩
    · have c2' : 1048576 < (p2.size : Int) := by omega
      go_enter Tryd.func19, Tryd.ntmps19
      go_wp2_with fail
      go_ret
      exact ⟨false, rfl, (fun h => by cases h), rfl⟩
  · have c1' : 1048576 < (p1.size : Int) := by omega
    go_enter Tryd.func19, Tryd.ntmps19
    go_wp2_with fail
    go_ret
    exact ⟨false, rfl, (fun h => by cases h), rfl⟩
end GI
end Go.Proofs.YtoblkmnhoiodcaaDoor
