/- Proved here: contracts of the string lists' copies, sizes and comparisons. Conditions: the lists' cells and lengths, as stated. -/
import Derived.Test.YtcbbnkccfbgahaaBase
import Derived.WalkKit
import Derived.WalkSpells
import Derived.WalkLawsBesides
import Derived.Lib.Hide
import Derived.Lib.SliceRun
import Derived.Deep.RegionWith
import Derived.Deep.QuietTactic
import Derived.BigQuiet
namespace Go.Proofs.Ytcbbnkccfbgahaa
open Go.RowKit
set_option linter.unusedSimpArgs false
set_option linter.unusedVariables false

/-- A slice that reads as f at each index below len; nil where len is 0 is let in. -/
def RowV (w : World) (a : Option Addr) (len : Nat) (f : Nat → Value) : Prop :=
  0 < len → ∃ B off, a = some ⟨B, off, none⟩ ∧ ∀ i, i < len → w.cell? ⟨B, off + i, none⟩ = some (f i)
theorem RowV.below {w w' : World} {a : Option Addr} {len : Nat} {f : Nat → Value} (h : RowV w a len f) (hb : Below w.heap.size w w') : RowV w' a len f := fun hp => by
  obtain ⟨B, off, e, hc⟩ := h hp
  exact ⟨B, off, e, fun i hi => kept hb (hc i hi)⟩
def ClonedV (len : Nat) (f : Nat → Value) (w : World) (e : Ending) (w' : World) : Prop :=
  ∃ a' cap', e = .returned (.slice a' len cap') ∧ RowV w' a' len f ∧ Below w.heap.size w w'
theorem rowv_ints {k : IntKind} {w : World} {a : Option Addr} {len cap : Nat} {zs : List Int} (h : IsRow k w a len cap zs) : RowV w a len (fun i => .int k (zs.getD i 0)) := by
  intro hp
  rcases h with ⟨_, rfl, _⟩ | ⟨x, rfl, hl, hm, hz, hcell, _⟩
  · omega
  · obtain ⟨b, off, rfl⟩ := spot_none (hcell 0 (by omega))
    exact ⟨b, off, rfl, fun i hi => by rw [← add_none]; exact hcell i (by omega)⟩
theorem rowv_bools {w : World} {a : Option Addr} {len cap : Nat} {zs : List Bool} (h : IsBools w a len cap zs) : RowV w a len (fun i => .bool (zs.getD i false)) := by
  intro hp
  rcases h with ⟨_, rfl, _⟩ | ⟨x, rfl, hl, hm, hz, hcell⟩
  · omega
  · obtain ⟨b, off, rfl⟩ := spot_none (hcell 0 (by omega))
    exact ⟨b, off, rfl, fun i hi => by rw [← add_none]; exact hcell i (by omega)⟩
theorem rowv_strs {w : World} {a : Option Addr} {len cap : Nat} {zs : List ByteArray} (h : IsStrs w a len cap zs) : RowV w a len (fun i => .string (zs.getD i ByteArray.empty)) := by
  intro hp
  rcases h with ⟨_, rfl, _⟩ | ⟨x, rfl, hl, hm, hz, hcell, _⟩
  · omega
  · obtain ⟨b, off, rfl⟩ := spot_none (hcell 0 (by omega))
    exact ⟨b, off, rfl, fun i hi => by rw [← add_none]; exact hcell i (by omega)⟩
theorem len_ints {k : IntKind} {w : World} {a : Option Addr} {len cap : Nat} {zs : List Int} (h : IsRow k w a len cap zs) : len ≤ maxLen ∧ len ≤ zs.length ∧ ∀ i, (Lit.int k (zs.getD i 0)).wf = true ∨ zs.length ≤ i := by
  rcases h with ⟨_, rfl, _, rfl⟩ | ⟨x, rfl, hl, hm, hz, hcell, hw⟩
  · exact ⟨by unfold maxLen; omega, by simp, fun i => .inr (by simp)⟩
  · refine ⟨by omega, by omega, fun i => ?_⟩
    by_cases hi : i < zs.length
    · left; exact hw _ (by simp [List.getD, hi])
    · right; omega
theorem len_bools {w : World} {a : Option Addr} {len cap : Nat} {zs : List Bool} (h : IsBools w a len cap zs) : len ≤ maxLen := by
  rcases h with ⟨_, rfl, _, rfl⟩ | ⟨x, rfl, hl, hm, hz, hcell⟩
  · unfold maxLen; omega
  · omega
theorem len_strs {w : World} {a : Option Addr} {len cap : Nat} {zs : List ByteArray} (h : IsStrs w a len cap zs) : len ≤ maxLen ∧ ∀ i, (zs.getD i ByteArray.empty).size ≤ maxLen := by
  rcases h with ⟨_, rfl, _, rfl⟩ | ⟨x, rfl, hl, hm, hz, hcell, hw⟩
  · exact ⟨by unfold maxLen; omega, fun i => by simp⟩
  · refine ⟨by omega, fun i => ?_⟩
    by_cases hi : i < zs.length
    · exact hw _ (by simp [List.getD, hi])
    · simp [List.getD, hi]

/-- What the copy 'cpS' hands back of a slice that is not nil. -/
def cpSPost (len : Nat) (zs : List ByteArray) (w : World) (e : Ending) (w' : World) : Prop :=
  ∃ cs, e = .returned (.slice (some ⟨w.heap.size, 0, none⟩) len len) ∧ At w' w.heap.size 9 cs ∧ cs.size = len ∧ (∀ i, i < len → cs[i]? = some (.string (zs.getD i ByteArray.empty))) ∧ Below w.heap.size w w'
def cpSRel (len : Nat) (zs : List ByteArray) (w : World) (i : Value) (wr : World) : Prop :=
  ∃ (k : Nat) (cs : Array Value), k ≤ len ∧ i = .int .i64 k ∧ At wr w.heap.size 9 cs ∧ cs.size = len ∧ (∀ j, j < k → cs[j]? = some (.string (zs.getD j ByteArray.empty))) ∧ Below w.heap.size w wr
theorem cpS_nil (w : World) : Calls Try.prog 11 #[.slice none 0 0] w fun e w' => e = .returned (.slice none 0 0) ∧ w = w' := by
  have qT : ∀ (w : World) (a : Option Addr) (n c n' c' : Nat), (binOp .eql 22 (.slice a n c) (.slice none n' c')).run Try.prog w = .ok (.bool a.isNone) w := fun w a n c n' c' => Lib.run_eql_slice_nil w 22 9 a n c n' c' Try.underlying22
  go_enter Try.func11, Try.ntmps11
  go_wp2_with fail
  go_ret
  exact ⟨rfl, rfl⟩
set_option maxRecDepth 100000 in
set_option maxHeartbeats 1000000 in
theorem cpS_some (x : Addr) (len cap : Nat) (zs : List ByteArray) (w : World) (hz : len ≤ zs.length) (hcell : ∀ i, i < zs.length → w.cell? (x.add i) = some (.string (zs.getD i ByteArray.empty))) (hlen : len ≤ 1048576) :
    Calls Try.prog 11 #[.slice (some x) len cap] w (cpSPost len zs w) := by
  have qT : ∀ (w : World) (a : Option Addr) (n c n' c' : Nat), (binOp .eql 22 (.slice a n c) (.slice none n' c')).run Try.prog w = .ok (.bool a.isNone) w := fun w a n c n' c' => Lib.run_eql_slice_nil w 22 9 a n c n' c' Try.underlying22
  have hmk := made (P := Try.prog) (t := 22) (e := 9) (z := .string ⟨#[]⟩) (sz := 1) (by_ := 16) Try.underlying22 (by kernel_rfl) w len (by omega) (by omega)
  rw [Nat.mul_one] at hmk
  have HC := Lib.hid hcell
  clear hcell
  go_enter Try.func11, Try.ntmps11
  go_wp2_with fail
  go_loopw [4] (fun i wr => cpSRel len zs w i wr) (fun i _ => len - (intOf i).toNat)
  case atStart => exact ⟨0, _, Nat.zero_le _, rfl, At.new _ _ _, by simp [size_madeCells, Value.cells], fun j hj => absurd hj (by omega), (Below.refl _ _).alloc (Nat.le_refl _) _⟩
  case round =>
    obtain ⟨k, cs, hk, rfl, hat, hsz, hcs, hb⟩ := hrel
    by_cases hlt : k < len
    · have hc := HC.out k (by omega)
      obtain ⟨b, off, rfl⟩ := spot_none (HC.out 0 (by omega))
      rw [add_none] at hc
      have hc1 : wr.cell? ⟨b, off + k, none⟩ = some (.string (zs.getD k ByteArray.empty)) := by
        exact kept hb hc
      have hd : wr.cell? ⟨w.heap.size, k, none⟩ = some cs[k] := by rw [hat.cell k]; simp [hsz, hlt]
      have hf := hat.frozen k
      clear hc
      have HAT := Lib.hid hat
      have HCS := Lib.hid hcs
      have HSZ := Lib.hid hsz
      clear hat hcs
      go_wp2_with fail
      go_roundw
      case rel =>
        refine ⟨k + 1, _, by omega, by go_num, HAT.out.set k _, by simp [HSZ.out], ?_, hb.setCell (Nat.le_refl _) _⟩
        intro j hj
        by_cases e : j = k
        · subst e; simp [HSZ.out, hlt]
        · rw [Array.getElem?_setIfInBounds_ne (by omega)]; exact HCS.out j (by omega)
      case measure => simp [intOf]; omega
    · have e : k = len := by omega
      subst e
      have HAT := Lib.hid hat
      have HCS := Lib.hid hcs
      have HSZ := Lib.hid hsz
      clear hat hcs hsz
      go_wp2_with fail
      go_ret
      exact ⟨cs, rfl, HAT.out, HSZ.out, HCS.out, hb⟩

theorem cpS_any (a : Option Addr) (len cap : Nat) (zs : List ByteArray) (w : World) (h : IsStrs w a len cap zs) (hlen : len ≤ 1048576) :
    Calls Try.prog 11 #[.slice a len cap] w (ClonedV len (fun i => .string (zs.getD i ByteArray.empty)) w) := by
  rcases h with ⟨rfl, rfl, rfl, rfl⟩ | ⟨x, rfl, hl, hm, hz, hcell, hwz⟩
  · refine (cpS_nil w).mono ?_
    rintro e w' ⟨rfl, rfl⟩
    exact ⟨none, 0, rfl, fun h => absurd h (by omega), Below.refl _ _⟩
  · refine (cpS_some x len cap zs w (by omega) hcell hlen).mono ?_
    rintro e w' ⟨cs, rfl, hat, hsz, hcs, hb⟩
    exact ⟨_, _, rfl, fun _ => ⟨w.heap.size, 0, rfl, fun i hi => by rw [hat.cell, Nat.zero_add]; exact hcs i hi⟩, hb⟩

def sAt (zs : List ByteArray) (i : Nat) : ByteArray := zs.getD i ByteArray.empty
def StrEq (n m : Nat) (zs ys : List ByteArray) : Prop := n = m ∧ ∀ i, i < n → (sAt zs i).toList = (sAt ys i).toList
def EqPost (n m : Nat) (zs ys : List ByteArray) (w : World) (e : Ending) (w' : World) : Prop :=
  ∃ g : Bool, e = .returned (.bool g) ∧ (g = true ↔ StrEq n m zs ys) ∧ Below w.heap.size w w'
def SRelE (n : Nat) (zs ys : List ByteArray) (w : World) (i : Value) (wr : World) : Prop :=
  ∃ k : Nat, k ≤ n ∧ i = .int .i64 k ∧ (∃ q, wr = w.drewN q) ∧ Hid (∀ j, j < k → (sAt zs j).toList = (sAt ys j).toList)
theorem RowV.drewN {w : World} {a : Option Addr} {len : Nat} {f : Nat → Value} (h : RowV w a len f) (q : Nat) : RowV (w.drewN q) a len f := h

set_option maxRecDepth 100000 in
set_option maxHeartbeats 1000000 in
theorem sae_any (a b : Option Addr) (n m c d : Nat) (zs ys : List ByteArray) (w : World) (h : RowV w a n (fun i => .string (sAt zs i))) (h2 : RowV w b m (fun i => .string (sAt ys i))) (hn : n ≤ 1048576) (hm : m ≤ 1048576) :
    Calls Try.prog 48 #[.slice a n c, .slice b m d] w (EqPost n m zs ys w) := by
  have H := Lib.hid h
  have H2 := Lib.hid h2
  clear h h2
  by_cases hnm : n = m
  · subst hnm
    go_enter Try.func48, Try.ntmps48
    go_wp2_with fail
    go_loopw [14] (fun i wr => SRelE n zs ys w i wr) (fun i _ => n - (intOf i).toNat)
    case atStart => exact ⟨0, by omega, rfl, ⟨0, rfl⟩, Lib.hid (fun j hj => absurd hj (by omega))⟩
    case round =>
      obtain ⟨k, hk, rfl, ⟨q, rfl⟩, HA⟩ := hrel
      by_cases hlt : k < n
      · obtain ⟨B, off, rfl, hc⟩ := (H.out.drewN q) (by omega)
        obtain ⟨B2, off2, rfl, hc2⟩ := (H2.out.drewN q) (by omega)
        have c0 := hc k hlt
        have c1 := hc2 k hlt
        clear hc hc2
        have hB : B < w.heap.size := World.block_lt_of_cell? _ _ c0
        have hB2 : B2 < w.heap.size := World.block_lt_of_cell? _ _ c1
        obtain ⟨s, hs⟩ : ∃ s, s = sAt zs k := ⟨_, rfl⟩
        obtain ⟨t, ht⟩ : ∃ t, t = sAt ys k := ⟨_, rfl⟩
        simp only [← hs] at c0
        simp only [← ht] at c1
        have HS := Lib.hid hs
        have HT := Lib.hid ht
        clear hs ht
        obtain ⟨W, hW⟩ : ∃ W, W = w.drewN q := ⟨_, rfl⟩
        rw [← hW] at c0 c1 ⊢
        have HW := Lib.hid hW
        have hB' : B < W.heap.size := World.block_lt_of_cell? _ _ c0
        have hB2' : B2 < W.heap.size := World.block_lt_of_cell? _ _ c1
        clear hW
        by_cases e : s.toList = t.toList
        · have e1 : (s.toList == t.toList) = true := by rw [e]; exact beq_self_eq_true _
          have e2 : (s.toList != t.toList) = false := by rw [e]; simp
          have NS := Lib.hid (show ∀ j, j < k + 1 → (sAt zs j).toList = (sAt ys j).toList from fun j hj => by
            by_cases ej : j = k
            · subst ej; rw [← HS.out, ← HT.out]; assumption
            · exact HA.out j (by omega))
          clear HA HS HT e
          go_wp2_with fail
          
          go_roundw
          case rel => exact ⟨k + 1, by omega, by go_num, ⟨q, HW.out⟩, NS.out |> Lib.hid⟩
          case measure => simp [intOf]; omega
        · have NS := Lib.hid (show ¬ StrEq n n zs ys from fun h => by have := h.2 k hlt; rw [← HS.out, ← HT.out] at this; exact e this)
          have e1 : (s.toList == t.toList) = false := beq_false_of_ne e
          have e2 : (s.toList != t.toList) = true := bne_iff_ne.2 e
          clear HA HS HT e
          go_wp2_with fail
          
          go_ret
          exact ⟨false, rfl, by simp [NS.out], by have := HW.out; subst this; first | exact below_drewN (Below.refl _ _) _ | exact below_drewN (below_drewN (Below.refl _ _) _) _⟩
      · have e : k = n := by omega
        subst e
        have NS := Lib.hid (show StrEq k k zs ys from ⟨rfl, HA.out⟩)
        go_wp2_with fail
        go_ret
        exact ⟨true, rfl, by simp [NS.out], below_drewN (Below.refl _ _) _⟩
  · have e1 : ((n : Int) != (m : Int)) = true := by simp; omega
    have e2 : ((n : Int) == (m : Int)) = false := by simp; omega
    have e3 : (n != m) = true := by simp; omega
    have e4 : (n == m) = false := by simp; omega
    have NS := Lib.hid (show ¬ StrEq n m zs ys from fun h => hnm h.1)
    clear hnm
    go_enter Try.func48, Try.ntmps48
    go_wp2_with fail
    go_ret
    exact ⟨false, rfl, by simp [NS.out], Below.refl _ _⟩

set_option maxRecDepth 100000 in
set_option maxHeartbeats 1000000 in
theorem parts_eq (a b : Option Addr) (n m c d : Nat) (zs ys : List ByteArray) (w : World) (h : RowV w a n (fun i => .string (sAt zs i))) (h2 : RowV w b m (fun i => .string (sAt ys i))) (hn : n ≤ 1048576) (hm : m ≤ 1048576) :
    Calls Try.prog 14 #[.slice a n c, .slice b m d] w (EqPost n m zs ys w) := by
  have H := Lib.hid h
  have H2 := Lib.hid h2
  clear h h2
  by_cases hnm : n = m
  · subst hnm
    go_enter Try.func14, Try.ntmps14
    go_wp2_with fail
    go_loopw [5] (fun i wr => SRelE n zs ys w i wr) (fun i _ => n - (intOf i).toNat)
    case atStart => exact ⟨0, by omega, rfl, ⟨0, rfl⟩, Lib.hid (fun j hj => absurd hj (by omega))⟩
    case round =>
      obtain ⟨k, hk, rfl, ⟨q, rfl⟩, HA⟩ := hrel
      by_cases hlt : k < n
      · obtain ⟨B, off, rfl, hc⟩ := (H.out.drewN q) (by omega)
        obtain ⟨B2, off2, rfl, hc2⟩ := (H2.out.drewN q) (by omega)
        have c0 := hc k hlt
        have c1 := hc2 k hlt
        clear hc hc2
        have hB : B < w.heap.size := World.block_lt_of_cell? _ _ c0
        have hB2 : B2 < w.heap.size := World.block_lt_of_cell? _ _ c1
        obtain ⟨s, hs⟩ : ∃ s, s = sAt zs k := ⟨_, rfl⟩
        obtain ⟨t, ht⟩ : ∃ t, t = sAt ys k := ⟨_, rfl⟩
        simp only [← hs] at c0
        simp only [← ht] at c1
        have HS := Lib.hid hs
        have HT := Lib.hid ht
        clear hs ht
        obtain ⟨W, hW⟩ : ∃ W, W = w.drewN q := ⟨_, rfl⟩
        rw [← hW] at c0 c1 ⊢
        have HW := Lib.hid hW
        have hB' : B < W.heap.size := World.block_lt_of_cell? _ _ c0
        have hB2' : B2 < W.heap.size := World.block_lt_of_cell? _ _ c1
        clear hW
        by_cases e : s.toList = t.toList
        · have e1 : (s.toList == t.toList) = true := by rw [e]; exact beq_self_eq_true _
          have e2 : (s.toList != t.toList) = false := by rw [e]; simp
          have NS := Lib.hid (show ∀ j, j < k + 1 → (sAt zs j).toList = (sAt ys j).toList from fun j hj => by
            by_cases ej : j = k
            · subst ej; rw [← HS.out, ← HT.out]; assumption
            · exact HA.out j (by omega))
          clear HA HS HT e
          go_wp2_with fail
          go_quiet (fail)
          go_wp2_with fail
          go_roundw
          case rel => exact ⟨k + 1, by omega, by go_num, (by have := HW.out; subst this; first | exact ⟨_, World.drewN_drewN _ _ _⟩ | exact ⟨_, rfl⟩), NS.out |> Lib.hid⟩
          case measure => simp [intOf]; omega
        · have NS := Lib.hid (show ¬ StrEq n n zs ys from fun h => by have := h.2 k hlt; rw [← HS.out, ← HT.out] at this; exact e this)
          have e1 : (s.toList == t.toList) = false := beq_false_of_ne e
          have e2 : (s.toList != t.toList) = true := bne_iff_ne.2 e
          clear HA HS HT e
          go_wp2_with fail
          go_quiet (fail)
          go_wp2_with fail
          go_ret
          exact ⟨false, rfl, by simp [NS.out], by have := HW.out; subst this; first | exact below_drewN (Below.refl _ _) _ | exact below_drewN (below_drewN (Below.refl _ _) _) _⟩
      · have e : k = n := by omega
        subst e
        have NS := Lib.hid (show StrEq k k zs ys from ⟨rfl, HA.out⟩)
        go_wp2_with fail
        go_ret
        exact ⟨true, rfl, by simp [NS.out], below_drewN (Below.refl _ _) _⟩
  · have e1 : ((n : Int) != (m : Int)) = true := by simp; omega
    have e2 : ((n : Int) == (m : Int)) = false := by simp; omega
    have e3 : (n != m) = true := by simp; omega
    have e4 : (n == m) = false := by simp; omega
    have NS := Lib.hid (show ¬ StrEq n m zs ys from fun h => hnm h.1)
    clear hnm
    go_enter Try.func14, Try.ntmps14
    go_wp2_with fail
    go_ret
    exact ⟨false, rfl, by simp [NS.out], Below.refl _ _⟩
end Go.Proofs.Ytcbbnkccfbgahaa
