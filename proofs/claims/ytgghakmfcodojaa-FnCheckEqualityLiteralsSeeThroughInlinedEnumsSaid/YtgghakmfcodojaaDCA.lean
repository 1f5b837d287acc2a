/- Proved here: contracts of the copies and comparisons of []uint16. Conditions: the rows' cells and lengths, as stated. -/
import Derived.Test.YtgghakmfcodojaaBase
import Derived.WalkKit
import Derived.WalkSpells
import Derived.WalkLawsBesides
import Derived.Lib.Hide
import Derived.Lib.SliceRun
import Derived.Deep.RegionWith
import Derived.Deep.QuietTactic
import Derived.BigQuiet
namespace Go.Proofs.Ytgghakmfcodojaa
open Go.RowKit
set_option linter.unusedSimpArgs false
set_option linter.unusedVariables false

/-- A slice that reads as f at each index below len; nil where len is 0 is let in. -/
def RowV (w : World) (a : Option Addr) (len : Nat) (f : Nat → Value) : Prop :=
  0 < len → ∃ B off, a = some ⟨B, off, none⟩ ∧ ∀ i, i < len → w.cell? ⟨B, off + i, none⟩ = some (f i)
theorem RowV.below {w w' : World} {a : Option Addr} {len : Nat} {f : Nat → Value} (h : RowV w a len f) (hb : Below w.heap.size w w') : RowV w' a len f := fun hp => by
  obtain ⟨B, off, e, hc⟩ := h hp
  exact ⟨B, off, e, fun i hi => kept hb (hc i hi)⟩
def ClonedV (len : Nat) (f : Nat → Value) (w : World) (e : Ending) (w' : World) : Prop :=
  ∃ a' cap', e = .returned (.slice a' len cap') ∧ RowV w' a' len f ∧ Below w.heap.size w w'
theorem rowv_ints {k : IntKind} {w : World} {a : Option Addr} {len cap : Nat} {zs : List Int} (h : IsRow k w a len cap zs) : RowV w a len (fun i => .int k (zs.getD i 0)) := by
  intro hp
  rcases h with ⟨_, rfl, _⟩ | ⟨x, rfl, hl, hm, hz, hcell, _⟩
  · omega
  · obtain ⟨b, off, rfl⟩ := spot_none (hcell 0 (by omega))
    exact ⟨b, off, rfl, fun i hi => by rw [← add_none]; exact hcell i (by omega)⟩
theorem rowv_bools {w : World} {a : Option Addr} {len cap : Nat} {zs : List Bool} (h : IsBools w a len cap zs) : RowV w a len (fun i => .bool (zs.getD i false)) := by
  intro hp
  rcases h with ⟨_, rfl, _⟩ | ⟨x, rfl, hl, hm, hz, hcell⟩
  · omega
  · obtain ⟨b, off, rfl⟩ := spot_none (hcell 0 (by omega))
    exact ⟨b, off, rfl, fun i hi => by rw [← add_none]; exact hcell i (by omega)⟩
theorem rowv_strs {w : World} {a : Option Addr} {len cap : Nat} {zs : List ByteArray} (h : IsStrs w a len cap zs) : RowV w a len (fun i => .string (zs.getD i ByteArray.empty)) := by
  intro hp
  rcases h with ⟨_, rfl, _⟩ | ⟨x, rfl, hl, hm, hz, hcell, _⟩
  · omega
  · obtain ⟨b, off, rfl⟩ := spot_none (hcell 0 (by omega))
    exact ⟨b, off, rfl, fun i hi => by rw [← add_none]; exact hcell i (by omega)⟩
theorem len_ints {k : IntKind} {w : World} {a : Option Addr} {len cap : Nat} {zs : List Int} (h : IsRow k w a len cap zs) : len ≤ maxLen ∧ len ≤ zs.length ∧ ∀ i, (Lit.int k (zs.getD i 0)).wf = true ∨ zs.length ≤ i := by
  rcases h with ⟨_, rfl, _, rfl⟩ | ⟨x, rfl, hl, hm, hz, hcell, hw⟩
  · exact ⟨by unfold maxLen; omega, by simp, fun i => .inr (by simp)⟩
  · refine ⟨by omega, by omega, fun i => ?_⟩
    by_cases hi : i < zs.length
    · left; exact hw _ (by simp [List.getD, hi])
    · right; omega
theorem len_bools {w : World} {a : Option Addr} {len cap : Nat} {zs : List Bool} (h : IsBools w a len cap zs) : len ≤ maxLen := by
  rcases h with ⟨_, rfl, _, rfl⟩ | ⟨x, rfl, hl, hm, hz, hcell⟩
  · unfold maxLen; omega
  · omega
theorem len_strs {w : World} {a : Option Addr} {len cap : Nat} {zs : List ByteArray} (h : IsStrs w a len cap zs) : len ≤ maxLen ∧ ∀ i, (zs.getD i ByteArray.empty).size ≤ maxLen := by
  rcases h with ⟨_, rfl, _, rfl⟩ | ⟨x, rfl, hl, hm, hz, hcell, hw⟩
  · exact ⟨by unfold maxLen; omega, fun i => by simp⟩
  · refine ⟨by omega, fun i => ?_⟩
    by_cases hi : i < zs.length
    · exact hw _ (by simp [List.getD, hi])
    · simp [List.getD, hi]

/-- What the copy 'cpA' hands back of a slice that is not nil. -/
def cpAPost (len : Nat) (zs : List Int) (w : World) (e : Ending) (w' : World) : Prop :=
  ∃ cs, e = .returned (.slice (some ⟨w.heap.size, 0, none⟩) len len) ∧ At w' w.heap.size 49 cs ∧ cs.size = len ∧ (∀ i, i < len → cs[i]? = some (.int .u16 (zs.getD i 0))) ∧ Below w.heap.size w w'
def cpARel (len : Nat) (zs : List Int) (w : World) (i : Value) (wr : World) : Prop :=
  ∃ (k : Nat) (cs : Array Value), k ≤ len ∧ i = .int .i64 k ∧ At wr w.heap.size 49 cs ∧ cs.size = len ∧ (∀ j, j < k → cs[j]? = some (.int .u16 (zs.getD j 0))) ∧ Below w.heap.size w wr
theorem cpA_nil (w : World) : Calls Try.prog 8 #[.slice none 0 0] w fun e w' => e = .returned (.slice none 0 0) ∧ w = w' := by
  have qT : ∀ (w : World) (a : Option Addr) (n c n' c' : Nat), (binOp .eql 23 (.slice a n c) (.slice none n' c')).run Try.prog w = .ok (.bool a.isNone) w := fun w a n c n' c' => Lib.run_eql_slice_nil w 23 49 a n c n' c' Try.underlying23
  go_enter Try.func8, Try.ntmps8
  go_wp2_with fail
  go_ret
  exact ⟨rfl, rfl⟩
set_option maxRecDepth 100000 in
set_option maxHeartbeats 1000000 in
theorem cpA_some (x : Addr) (len cap : Nat) (zs : List Int) (w : World) (hz : len ≤ zs.length) (hcell : ∀ i, i < zs.length → w.cell? (x.add i) = some (.int .u16 (zs.getD i 0))) (hlen : len ≤ 1048576) :
    Calls Try.prog 8 #[.slice (some x) len cap] w (cpAPost len zs w) := by
  have qT : ∀ (w : World) (a : Option Addr) (n c n' c' : Nat), (binOp .eql 23 (.slice a n c) (.slice none n' c')).run Try.prog w = .ok (.bool a.isNone) w := fun w a n c n' c' => Lib.run_eql_slice_nil w 23 49 a n c n' c' Try.underlying23
  have hmk := made (P := Try.prog) (t := 23) (e := 49) (z := .int .u16 0) (sz := 1) (by_ := 2) Try.underlying23 (by kernel_rfl) w len (by omega) (by omega)
  rw [Nat.mul_one] at hmk
  have HC := Lib.hid hcell
  clear hcell
  go_enter Try.func8, Try.ntmps8
  go_wp2_with fail
  go_loopw [4] (fun i wr => cpARel len zs w i wr) (fun i _ => len - (intOf i).toNat)
  case atStart => exact ⟨0, _, Nat.zero_le _, rfl, At.new _ _ _, by simp [size_madeCells, Value.cells], fun j hj => absurd hj (by omega), (Below.refl _ _).alloc (Nat.le_refl _) _⟩
  case round =>
    obtain ⟨k, cs, hk, rfl, hat, hsz, hcs, hb⟩ := hrel
    by_cases hlt : k < len
    · have hc := HC.out k (by omega)
      obtain ⟨b, off, rfl⟩ := spot_none (HC.out 0 (by omega))
      rw [add_none] at hc
      have hc1 : wr.cell? ⟨b, off + k, none⟩ = some (.int .u16 (zs.getD k 0)) := by
        exact kept hb hc
      have hd : wr.cell? ⟨w.heap.size, k, none⟩ = some cs[k] := by rw [hat.cell k]; simp [hsz, hlt]
      have hf := hat.frozen k
      clear hc
      have HAT := Lib.hid hat
      have HCS := Lib.hid hcs
      have HSZ := Lib.hid hsz
      clear hat hcs
      go_wp2_with fail
      go_roundw
      case rel =>
        refine ⟨k + 1, _, by omega, by go_num, HAT.out.set k _, by simp [HSZ.out], ?_, hb.setCell (Nat.le_refl _) _⟩
        intro j hj
        by_cases e : j = k
        · subst e; simp [HSZ.out, hlt]
        · rw [Array.getElem?_setIfInBounds_ne (by omega)]; exact HCS.out j (by omega)
      case measure => simp [intOf]; omega
    · have e : k = len := by omega
      subst e
      have HAT := Lib.hid hat
      have HCS := Lib.hid hcs
      have HSZ := Lib.hid hsz
      clear hat hcs hsz
      go_wp2_with fail
      go_ret
      exact ⟨cs, rfl, HAT.out, HSZ.out, HCS.out, hb⟩

theorem cpA_any (a : Option Addr) (len cap : Nat) (zs : List Int) (w : World) (h : IsRow .u16 w a len cap zs) (hlen : len ≤ 1048576) :
    Calls Try.prog 8 #[.slice a len cap] w (ClonedV len (fun i => .int .u16 (zs.getD i 0)) w) := by
  rcases h with ⟨rfl, rfl, rfl, rfl⟩ | ⟨x, rfl, hl, hm, hz, hcell, hwz⟩
  · refine (cpA_nil w).mono ?_
    rintro e w' ⟨rfl, rfl⟩
    exact ⟨none, 0, rfl, fun h => absurd h (by omega), Below.refl _ _⟩
  · refine (cpA_some x len cap zs w (by omega) hcell hlen).mono ?_
    rintro e w' ⟨cs, rfl, hat, hsz, hcs, hb⟩
    exact ⟨_, _, rfl, fun _ => ⟨w.heap.size, 0, rfl, fun i hi => by rw [hat.cell, Nat.zero_add]; exact hcs i hi⟩, hb⟩

/-- What the copy 'cpB' hands back of a slice that is not nil. -/
def cpBPost (len : Nat) (zs : List Int) (w : World) (e : Ending) (w' : World) : Prop :=
  ∃ cs, e = .returned (.slice (some ⟨w.heap.size, 0, none⟩) len len) ∧ At w' w.heap.size 49 cs ∧ cs.size = len ∧ (∀ i, i < len → cs[i]? = some (.int .u16 (zs.getD i 0))) ∧ Below w.heap.size w w'
def cpBRel (len : Nat) (zs : List Int) (w : World) (i : Value) (wr : World) : Prop :=
  ∃ (k : Nat) (cs : Array Value), k ≤ len ∧ i = .int .i64 k ∧ At wr w.heap.size 49 cs ∧ cs.size = len ∧ (∀ j, j < k → cs[j]? = some (.int .u16 (zs.getD j 0))) ∧ Below w.heap.size w wr
theorem cpB_nil (w : World) : Calls Try.prog 17 #[.slice none 0 0] w fun e w' => e = .returned (.slice none 0 0) ∧ w = w' := by
  have qT : ∀ (w : World) (a : Option Addr) (n c n' c' : Nat), (binOp .eql 23 (.slice a n c) (.slice none n' c')).run Try.prog w = .ok (.bool a.isNone) w := fun w a n c n' c' => Lib.run_eql_slice_nil w 23 49 a n c n' c' Try.underlying23
  go_enter Try.func17, Try.ntmps17
  go_wp2_with fail
  go_ret
  exact ⟨rfl, rfl⟩
set_option maxRecDepth 100000 in
set_option maxHeartbeats 1000000 in
theorem cpB_some (x : Addr) (len cap : Nat) (zs : List Int) (w : World) (hz : len ≤ zs.length) (hcell : ∀ i, i < zs.length → w.cell? (x.add i) = some (.int .u16 (zs.getD i 0))) (hlen : len ≤ 1048576) :
    Calls Try.prog 17 #[.slice (some x) len cap] w (cpBPost len zs w) := by
  have qT : ∀ (w : World) (a : Option Addr) (n c n' c' : Nat), (binOp .eql 23 (.slice a n c) (.slice none n' c')).run Try.prog w = .ok (.bool a.isNone) w := fun w a n c n' c' => Lib.run_eql_slice_nil w 23 49 a n c n' c' Try.underlying23
  have hmk := made (P := Try.prog) (t := 23) (e := 49) (z := .int .u16 0) (sz := 1) (by_ := 2) Try.underlying23 (by kernel_rfl) w len (by omega) (by omega)
  rw [Nat.mul_one] at hmk
  have HC := Lib.hid hcell
  clear hcell
  go_enter Try.func17, Try.ntmps17
  go_wp2_with fail
  go_loopw [4] (fun i wr => cpBRel len zs w i wr) (fun i _ => len - (intOf i).toNat)
  case atStart => exact ⟨0, _, Nat.zero_le _, rfl, At.new _ _ _, by simp [size_madeCells, Value.cells], fun j hj => absurd hj (by omega), (Below.refl _ _).alloc (Nat.le_refl _) _⟩
  case round =>
    obtain ⟨k, cs, hk, rfl, hat, hsz, hcs, hb⟩ := hrel
    by_cases hlt : k < len
    · have hc := HC.out k (by omega)
      obtain ⟨b, off, rfl⟩ := spot_none (HC.out 0 (by omega))
      rw [add_none] at hc
      have hc1 : wr.cell? ⟨b, off + k, none⟩ = some (.int .u16 (zs.getD k 0)) := by
        exact kept hb hc
      have hd : wr.cell? ⟨w.heap.size, k, none⟩ = some cs[k] := by rw [hat.cell k]; simp [hsz, hlt]
      have hf := hat.frozen k
      clear hc
      have HAT := Lib.hid hat
      have HCS := Lib.hid hcs
      have HSZ := Lib.hid hsz
      clear hat hcs
      go_wp2_with fail
      go_roundw
      case rel =>
        refine ⟨k + 1, _, by omega, by go_num, HAT.out.set k _, by simp [HSZ.out], ?_, hb.setCell (Nat.le_refl _) _⟩
        intro j hj
        by_cases e : j = k
        · subst e; simp [HSZ.out, hlt]
        · rw [Array.getElem?_setIfInBounds_ne (by omega)]; exact HCS.out j (by omega)
      case measure => simp [intOf]; omega
    · have e : k = len := by omega
      subst e
      have HAT := Lib.hid hat
      have HCS := Lib.hid hcs
      have HSZ := Lib.hid hsz
      clear hat hcs hsz
      go_wp2_with fail
      go_ret
      exact ⟨cs, rfl, HAT.out, HSZ.out, HCS.out, hb⟩

theorem cpB_any (a : Option Addr) (len cap : Nat) (zs : List Int) (w : World) (h : IsRow .u16 w a len cap zs) (hlen : len ≤ 1048576) :
    Calls Try.prog 17 #[.slice a len cap] w (ClonedV len (fun i => .int .u16 (zs.getD i 0)) w) := by
  rcases h with ⟨rfl, rfl, rfl, rfl⟩ | ⟨x, rfl, hl, hm, hz, hcell, hwz⟩
  · refine (cpB_nil w).mono ?_
    rintro e w' ⟨rfl, rfl⟩
    exact ⟨none, 0, rfl, fun h => absurd h (by omega), Below.refl _ _⟩
  · refine (cpB_some x len cap zs w (by omega) hcell hlen).mono ?_
    rintro e w' ⟨cs, rfl, hat, hsz, hcs, hb⟩
    exact ⟨_, _, rfl, fun _ => ⟨w.heap.size, 0, rfl, fun i hi => by rw [hat.cell, Nat.zero_add]; exact hcs i hi⟩, hb⟩

def uAt (zs : List Int) (i : Nat) : Int := zs.getD i 0
def UEq (n m : Nat) (zs ys : List Int) : Prop := n = m ∧ ∀ i, i < n → uAt zs i = uAt ys i
noncomputable def ueq (n m : Nat) (zs ys : List Int) : Bool := @decide (UEq n m zs ys) (Classical.propDecidable _)
theorem ueq_t {n m : Nat} {zs ys : List Int} (h : UEq n m zs ys) : ueq n m zs ys = true := by unfold ueq; simpa using h
theorem ueq_f {n m : Nat} {zs ys : List Int} (h : ¬ UEq n m zs ys) : ueq n m zs ys = false := by unfold ueq; simpa using h
theorem ueq_comm (n m : Nat) (zs ys : List Int) : ueq n m zs ys = ueq m n ys zs := by
  by_cases h : UEq n m zs ys
  · rw [ueq_t h, ueq_t ⟨h.1.symm, fun i hi => (h.2 i (by have := h.1; omega)).symm⟩]
  · rw [ueq_f h, ueq_f (fun k => h ⟨k.1.symm, fun i hi => (k.2 i (by have := k.1; omega)).symm⟩)]
theorem ueq_self (n : Nat) (zs : List Int) : ueq n n zs zs = true := ueq_t ⟨rfl, fun _ _ => rfl⟩
def BPost (g : Bool) (w : World) (e : Ending) (w' : World) : Prop := e = .returned (.bool g) ∧ Below w.heap.size w w'
def BPostQ (g : Bool) (w : World) (e : Ending) (w' : World) : Prop := e = .returned (.bool g) ∧ ∃ m, w' = w.drewN m
theorem BPostQ.below {g : Bool} {w : World} {e : Ending} {w' : World} (h : BPostQ g w e w') : BPost g w e w' := ⟨h.1, by obtain ⟨m, rfl⟩ := h.2; exact below_drewN (Below.refl _ _) _⟩
def URel (n : Nat) (zs ys : List Int) (w : World) (i : Value) (wr : World) : Prop :=
  ∃ k : Nat, k ≤ n ∧ i = .int .i64 k ∧ (∃ q, wr = w.drewN q) ∧ Hid (∀ j, j < k → uAt zs j = uAt ys j)
theorem RowV.drewN {w : World} {a : Option Addr} {len : Nat} {f : Nat → Value} (h : RowV w a len f) (q : Nat) : RowV (w.drewN q) a len f := h

set_option maxRecDepth 100000 in
set_option maxHeartbeats 1000000 in
theorem u41 (a b : Option Addr) (n m c d : Nat) (zs ys : List Int) (w : World) (h : RowV w a n (fun i => .int .u16 (uAt zs i))) (h2 : RowV w b m (fun i => .int .u16 (uAt ys i))) (hn : n ≤ 1048576) (hm : m ≤ 1048576) :
    Calls Try.prog 41 #[.slice a n c, .slice b m d] w (BPostQ (ueq n m zs ys) w) := by
  have H := Lib.hid h
  have H2 := Lib.hid h2
  clear h h2
  by_cases hnm : n = m
  · subst hnm
    go_enter Try.func41, Try.ntmps41
    go_wp2_with fail
    go_loopw [14] (fun i wr => URel n zs ys w i wr) (fun i _ => n - (intOf i).toNat)
    case atStart => exact ⟨0, by omega, rfl, ⟨0, rfl⟩, Lib.hid (fun j hj => absurd hj (by omega))⟩
    case round =>
      obtain ⟨k, hk, rfl, ⟨q, rfl⟩, HA⟩ := hrel
      by_cases hlt : k < n
      · obtain ⟨B, off, rfl, hc⟩ := (H.out.drewN q) (by omega)
        obtain ⟨B2, off2, rfl, hc2⟩ := (H2.out.drewN q) (by omega)
        have c0 := hc k hlt
        have c1 := hc2 k hlt
        clear hc hc2
        obtain ⟨s, hs⟩ : ∃ s, s = uAt zs k := ⟨_, rfl⟩
        obtain ⟨t, ht⟩ : ∃ t, t = uAt ys k := ⟨_, rfl⟩
        simp only [← hs] at c0
        simp only [← ht] at c1
        have HS := Lib.hid hs
        have HT := Lib.hid ht
        clear hs ht
        obtain ⟨W, hW⟩ : ∃ W, W = w.drewN q := ⟨_, rfl⟩
        rw [← hW] at c0 c1 ⊢
        have HW := Lib.hid hW
        have hB' : B < W.heap.size := World.block_lt_of_cell? _ _ c0
        have hB2' : B2 < W.heap.size := World.block_lt_of_cell? _ _ c1
        clear hW
        by_cases e : s = t
        · have NS := Lib.hid (show ∀ j, j < k + 1 → uAt zs j = uAt ys j from fun j hj => by
            by_cases ej : j = k
            · subst ej; rw [← HS.out, ← HT.out]; assumption
            · exact HA.out j (by omega))
          clear HA HS HT
          subst e
          go_wp2_with fail
          
          go_roundw
          case rel => exact ⟨k + 1, by omega, by go_num, ⟨q, HW.out⟩, NS.out |> Lib.hid⟩
          case measure => simp [intOf]; omega
        · have NS := Lib.hid (show ¬ UEq n n zs ys from fun h => by have := h.2 k hlt; rw [← HS.out, ← HT.out] at this; exact e this)
          have e1 : (s == t) = false := beq_false_of_ne e
          have e2 : (s != t) = true := bne_iff_ne.2 e
          clear HA HS HT e
          go_wp2_with fail
          
          go_ret
          exact ⟨by rw [ueq_f NS.out]; rfl, by have := HW.out; subst this; first | exact ⟨_, rfl⟩ | exact ⟨_, World.drewN_drewN _ _ _⟩⟩
      · have e : k = n := by omega
        subst e
        have NS := Lib.hid (show UEq k k zs ys from ⟨rfl, HA.out⟩)
        go_wp2_with fail
        go_ret
        exact ⟨by rw [ueq_t NS.out]; rfl, ⟨q, rfl⟩⟩
  · have e1 : ((n : Int) != (m : Int)) = true := by simp; omega
    have e2 : ((n : Int) == (m : Int)) = false := by simp; omega
    have e3 : (n != m) = true := by simp; omega
    have e4 : (n == m) = false := by simp; omega
    have NS := Lib.hid (show ¬ UEq n m zs ys from fun h => hnm h.1)
    clear hnm
    go_enter Try.func41, Try.ntmps41
    go_wp2_with fail
    go_ret
    exact ⟨by rw [ueq_f NS.out]; rfl, ⟨0, rfl⟩⟩

set_option maxRecDepth 100000 in
set_option maxHeartbeats 1000000 in
theorem u31 (a b : Option Addr) (n m c d : Nat) (zs ys : List Int) (w : World) (h : RowV w a n (fun i => .int .u16 (uAt zs i))) (h2 : RowV w b m (fun i => .int .u16 (uAt ys i))) (hn : n ≤ 1048576) (hm : m ≤ 1048576) :
    Calls Try.prog 31 #[.slice a n c, .slice b m d] w (BPostQ (ueq n m zs ys) w) := by
  have H := Lib.hid h
  have H2 := Lib.hid h2
  clear h h2
  by_cases hnm : n = m
  · subst hnm
    go_enter Try.func31, Try.ntmps31
    go_wp2_with fail
    go_loopw [5] (fun i wr => URel n zs ys w i wr) (fun i _ => n - (intOf i).toNat)
    case atStart => exact ⟨0, by omega, rfl, ⟨0, rfl⟩, Lib.hid (fun j hj => absurd hj (by omega))⟩
    case round =>
      obtain ⟨k, hk, rfl, ⟨q, rfl⟩, HA⟩ := hrel
      by_cases hlt : k < n
      · obtain ⟨B, off, rfl, hc⟩ := (H.out.drewN q) (by omega)
        obtain ⟨B2, off2, rfl, hc2⟩ := (H2.out.drewN q) (by omega)
        have c0 := hc k hlt
        have c1 := hc2 k hlt
        clear hc hc2
        obtain ⟨s, hs⟩ : ∃ s, s = uAt zs k := ⟨_, rfl⟩
        obtain ⟨t, ht⟩ : ∃ t, t = uAt ys k := ⟨_, rfl⟩
        simp only [← hs] at c0
        simp only [← ht] at c1
        have HS := Lib.hid hs
        have HT := Lib.hid ht
        clear hs ht
        obtain ⟨W, hW⟩ : ∃ W, W = w.drewN q := ⟨_, rfl⟩
        rw [← hW] at c0 c1 ⊢
        have HW := Lib.hid hW
        have hB' : B < W.heap.size := World.block_lt_of_cell? _ _ c0
        have hB2' : B2 < W.heap.size := World.block_lt_of_cell? _ _ c1
        clear hW
        by_cases e : s = t
        · have NS := Lib.hid (show ∀ j, j < k + 1 → uAt zs j = uAt ys j from fun j hj => by
            by_cases ej : j = k
            · subst ej; rw [← HS.out, ← HT.out]; assumption
            · exact HA.out j (by omega))
          clear HA HS HT
          subst e
          go_wp2_with fail
          go_quiet (fail)
          go_wp2_with fail
          go_roundw
          case rel => exact ⟨k + 1, by omega, by go_num, (by have := HW.out; subst this; first | exact ⟨_, World.drewN_drewN _ _ _⟩ | exact ⟨_, rfl⟩), NS.out |> Lib.hid⟩
          case measure => simp [intOf]; omega
        · have NS := Lib.hid (show ¬ UEq n n zs ys from fun h => by have := h.2 k hlt; rw [← HS.out, ← HT.out] at this; exact e this)
          have e1 : (s == t) = false := beq_false_of_ne e
          have e2 : (s != t) = true := bne_iff_ne.2 e
          clear HA HS HT e
          go_wp2_with fail
          go_quiet (fail)
          go_wp2_with fail
          go_ret
          exact ⟨by rw [ueq_f NS.out]; rfl, by have := HW.out; subst this; first | exact ⟨_, rfl⟩ | exact ⟨_, World.drewN_drewN _ _ _⟩⟩
      · have e : k = n := by omega
        subst e
        have NS := Lib.hid (show UEq k k zs ys from ⟨rfl, HA.out⟩)
        go_wp2_with fail
        go_ret
        exact ⟨by rw [ueq_t NS.out]; rfl, ⟨q, rfl⟩⟩
  · have e1 : ((n : Int) != (m : Int)) = true := by simp; omega
    have e2 : ((n : Int) == (m : Int)) = false := by simp; omega
    have e3 : (n != m) = true := by simp; omega
    have e4 : (n == m) = false := by simp; omega
    have NS := Lib.hid (show ¬ UEq n m zs ys from fun h => hnm h.1)
    clear hnm
    go_enter Try.func31, Try.ntmps31
    go_wp2_with fail
    go_ret
    exact ⟨by rw [ueq_f NS.out]; rfl, ⟨0, rfl⟩⟩
end Go.Proofs.Ytgghakmfcodojaa
