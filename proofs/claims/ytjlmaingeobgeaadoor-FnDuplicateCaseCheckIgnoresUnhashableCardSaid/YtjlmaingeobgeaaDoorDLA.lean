/- Proved here: strings as case values: copies, comparisons, hashes; case values that are not hashed. Conditions as stated. -/
import Derived.Test.YtjlmaingeobgeaaDoorDKN
import Derived.WalkKit
import Derived.WalkSpells
import Derived.WalkLawsBesides
import Derived.Lib.Hide
import Derived.Lib.SliceRun
import Derived.Deep.RegionWith
import Derived.OwnWalk
import Derived.Laws.OwnMore
import Derived.Deep.QuietTactic
import Derived.BigQuiet
import Derived.BigRegion
namespace Go.Proofs.YtjlmaingeobgeaaDoor
open Go.RowKit
set_option linter.unusedSimpArgs false
set_option linter.unusedVariables false

/-- What the copy 'cpS' hands back of a slice that is not nil. -/
def cpSPost (len : Nat) (zs : List Int) (w : World) (e : Ending) (w' : World) : Prop :=
  ∃ cs, e = .returned (.slice (some ⟨w.heap.size, 0, none⟩) len len) ∧ At w' w.heap.size 73 cs ∧ cs.size = len ∧ (∀ i, i < len → cs[i]? = some (.int .u16 (zs.getD i 0))) ∧ Below w.heap.size w w'
def cpSRel (len : Nat) (zs : List Int) (w : World) (i : Value) (wr : World) : Prop :=
  ∃ (k : Nat) (cs : Array Value), k ≤ len ∧ i = .int .i64 k ∧ At wr w.heap.size 73 cs ∧ cs.size = len ∧ (∀ j, j < k → cs[j]? = some (.int .u16 (zs.getD j 0))) ∧ Below w.heap.size w wr
theorem cpS_nil (w : World) : Calls Tryd.prog 49 #[.slice none 0 0] w fun e w' => e = .returned (.slice none 0 0) ∧ w = w' := by
  have qT : ∀ (w : World) (a : Option Addr) (n c n' c' : Nat), (binOp .eql 47 (.slice a n c) (.slice none n' c')).run Tryd.prog w = .ok (.bool a.isNone) w := fun w a n c n' c' => Lib.run_eql_slice_nil w 47 73 a n c n' c' Tryd.underlying47
  go_enter Tryd.func49, Tryd.ntmps49
  go_wp2_with fail
  go_ret
  exact ⟨rfl, rfl⟩
set_option maxRecDepth 100000 in
set_option maxHeartbeats 1000000 in
theorem cpS_some (x : Addr) (len cap : Nat) (zs : List Int) (w : World) (hz : len ≤ zs.length) (hcell : ∀ i, i < zs.length → w.cell? (x.add i) = some (.int .u16 (zs.getD i 0))) (hlen : len ≤ 1048576) :
    Calls Tryd.prog 49 #[.slice (some x) len cap] w (cpSPost len zs w) := by
  have qT : ∀ (w : World) (a : Option Addr) (n c n' c' : Nat), (binOp .eql 47 (.slice a n c) (.slice none n' c')).run Tryd.prog w = .ok (.bool a.isNone) w := fun w a n c n' c' => Lib.run_eql_slice_nil w 47 73 a n c n' c' Tryd.underlying47
  have hmk := made (P := Tryd.prog) (t := 47) (e := 73) (z := .int .u16 0) (sz := 1) (by_ := 2) Tryd.underlying47 (by kernel_rfl) w len (by omega) (by omega)
  rw [Nat.mul_one] at hmk
  have HC := Lib.hid hcell
  clear hcell
  go_enter Tryd.func49, Tryd.ntmps49
  go_wp2_with fail
  go_loopw [4] (fun i wr => cpSRel len zs w i wr) (fun i _ => len - (intOf i).toNat)
  case atStart => exact ⟨0, _, Nat.zero_le _, rfl, At.new _ _ _, by simp [size_madeCells, Value.cells], fun j hj => absurd hj (by omega), (Below.refl _ _).alloc (Nat.le_refl _) _⟩
  case round =>
    obtain ⟨k, cs, hk, rfl, hat, hsz, hcs, hb⟩ := hrel
    by_cases hlt : k < len
    · have hc := HC.out k (by omega)
      obtain ⟨b, off, rfl⟩ := spot_none (HC.out 0 (by omega))
      rw [add_none] at hc
      have hc1 : wr.cell? ⟨b, off + k, none⟩ = some (.int .u16 (zs.getD k 0)) := by
        exact kept hb hc
      have hd : wr.cell? ⟨w.heap.size, k, none⟩ = some cs[k] := by rw [hat.cell k]; simp [hsz, hlt]
      have hf := hat.frozen k
      clear hc
      have HAT := Lib.hid hat
      have HCS := Lib.hid hcs
      have HSZ := Lib.hid hsz
      clear hat hcs
      go_wp2_with fail
      go_roundw
      case rel =>
        refine ⟨k + 1, _, by omega, by go_num, HAT.out.set k _, by simp [HSZ.out], ?_, hb.setCell (Nat.le_refl _) _⟩
        intro j hj
        by_cases e : j = k
        · subst e; simp [HSZ.out, hlt]
        · rw [Array.getElem?_setIfInBounds_ne (by omega)]; exact HCS.out j (by omega)
      case measure => simp [intOf]; omega
    · have e : k = len := by omega
      subst e
      have HAT := Lib.hid hat
      have HCS := Lib.hid hcs
      have HSZ := Lib.hid hsz
      clear hat hcs hsz
      go_wp2_with fail
      go_ret
      exact ⟨cs, rfl, HAT.out, HSZ.out, HCS.out, hb⟩

theorem cpS_any (a : Option Addr) (len cap : Nat) (zs : List Int) (w : World) (h : IsRow .u16 w a len cap zs) (hlen : len ≤ 1048576) :
    Calls Tryd.prog 49 #[.slice a len cap] w (ClonedV len (fun i => .int .u16 (zs.getD i 0)) w) := by
  rcases h with ⟨rfl, rfl, rfl, rfl⟩ | ⟨x, rfl, hl, hm, hz, hcell, hwz⟩
  · refine (cpS_nil w).mono ?_
    rintro e w' ⟨rfl, rfl⟩
    exact ⟨none, 0, rfl, fun h => absurd h (by omega), Below.refl _ _⟩
  · refine (cpS_some x len cap zs w (by omega) hcell hlen).mono ?_
    rintro e w' ⟨cs, rfl, hat, hsz, hcs, hb⟩
    exact ⟨_, _, rfl, fun _ => ⟨w.heap.size, 0, rfl, fun i hi => by rw [hat.cell, Nat.zero_add]; exact hcs i hi⟩, hb⟩

/-- What the copy 'cpJ' hands back of a slice that is not nil. -/
def cpJPost (len : Nat) (zs : List Int) (w : World) (e : Ending) (w' : World) : Prop :=
  ∃ cs, e = .returned (.slice (some ⟨w.heap.size, 0, none⟩) len len) ∧ At w' w.heap.size 5 cs ∧ cs.size = len ∧ (∀ i, i < len → cs[i]? = some (.int .u8 (zs.getD i 0))) ∧ Below w.heap.size w w'
def cpJRel (len : Nat) (zs : List Int) (w : World) (i : Value) (wr : World) : Prop :=
  ∃ (k : Nat) (cs : Array Value), k ≤ len ∧ i = .int .i64 k ∧ At wr w.heap.size 5 cs ∧ cs.size = len ∧ (∀ j, j < k → cs[j]? = some (.int .u8 (zs.getD j 0))) ∧ Below w.heap.size w wr
theorem cpJ_nil (w : World) : Calls Tryd.prog 21 #[.slice none 0 0] w fun e w' => e = .returned (.slice none 0 0) ∧ w = w' := by
  have qT : ∀ (w : World) (a : Option Addr) (n c n' c' : Nat), (binOp .eql 45 (.slice a n c) (.slice none n' c')).run Tryd.prog w = .ok (.bool a.isNone) w := fun w a n c n' c' => Lib.run_eql_slice_nil w 45 5 a n c n' c' Tryd.underlying45
  go_enter Tryd.func21, Tryd.ntmps21
  go_wp2_with fail
  go_ret
  exact ⟨rfl, rfl⟩
set_option maxRecDepth 100000 in
set_option maxHeartbeats 1000000 in
theorem cpJ_some (x : Addr) (len cap : Nat) (zs : List Int) (w : World) (hz : len ≤ zs.length) (hcell : ∀ i, i < zs.length → w.cell? (x.add i) = some (.int .u8 (zs.getD i 0))) (hlen : len ≤ 1048576) :
    Calls Tryd.prog 21 #[.slice (some x) len cap] w (cpJPost len zs w) := by
  have qT : ∀ (w : World) (a : Option Addr) (n c n' c' : Nat), (binOp .eql 45 (.slice a n c) (.slice none n' c')).run Tryd.prog w = .ok (.bool a.isNone) w := fun w a n c n' c' => Lib.run_eql_slice_nil w 45 5 a n c n' c' Tryd.underlying45
  have hmk := made (P := Tryd.prog) (t := 45) (e := 5) (z := .int .u8 0) (sz := 1) (by_ := 1) Tryd.underlying45 (by kernel_rfl) w len (by omega) (by omega)
  rw [Nat.mul_one] at hmk
  have HC := Lib.hid hcell
  clear hcell
  go_enter Tryd.func21, Tryd.ntmps21
  go_wp2_with fail
  go_loopw [4] (fun i wr => cpJRel len zs w i wr) (fun i _ => len - (intOf i).toNat)
  case atStart => exact ⟨0, _, Nat.zero_le _, rfl, At.new _ _ _, by simp [size_madeCells, Value.cells], fun j hj => absurd hj (by omega), (Below.refl _ _).alloc (Nat.le_refl _) _⟩
  case round =>
    obtain ⟨k, cs, hk, rfl, hat, hsz, hcs, hb⟩ := hrel
    by_cases hlt : k < len
    · have hc := HC.out k (by omega)
      obtain ⟨b, off, rfl⟩ := spot_none (HC.out 0 (by omega))
      rw [add_none] at hc
      have hc1 : wr.cell? ⟨b, off + k, none⟩ = some (.int .u8 (zs.getD k 0)) := by
        exact kept hb hc
      have hd : wr.cell? ⟨w.heap.size, k, none⟩ = some cs[k] := by rw [hat.cell k]; simp [hsz, hlt]
      have hf := hat.frozen k
      clear hc
      have HAT := Lib.hid hat
      have HCS := Lib.hid hcs
      have HSZ := Lib.hid hsz
      clear hat hcs
      go_wp2_with fail
      go_roundw
      case rel =>
        refine ⟨k + 1, _, by omega, by go_num, HAT.out.set k _, by simp [HSZ.out], ?_, hb.setCell (Nat.le_refl _) _⟩
        intro j hj
        by_cases e : j = k
        · subst e; simp [HSZ.out, hlt]
        · rw [Array.getElem?_setIfInBounds_ne (by omega)]; exact HCS.out j (by omega)
      case measure => simp [intOf]; omega
    · have e : k = len := by omega
      subst e
      have HAT := Lib.hid hat
      have HCS := Lib.hid hcs
      have HSZ := Lib.hid hsz
      clear hat hcs hsz
      go_wp2_with fail
      go_ret
      exact ⟨cs, rfl, HAT.out, HSZ.out, HCS.out, hb⟩

theorem cpJ_any (a : Option Addr) (len cap : Nat) (zs : List Int) (w : World) (h : IsRow .u8 w a len cap zs) (hlen : len ≤ 1048576) :
    Calls Tryd.prog 21 #[.slice a len cap] w (ClonedV len (fun i => .int .u8 (zs.getD i 0)) w) := by
  rcases h with ⟨rfl, rfl, rfl, rfl⟩ | ⟨x, rfl, hl, hm, hz, hcell, hwz⟩
  · refine (cpJ_nil w).mono ?_
    rintro e w' ⟨rfl, rfl⟩
    exact ⟨none, 0, rfl, fun h => absurd h (by omega), Below.refl _ _⟩
  · refine (cpJ_some x len cap zs w (by omega) hcell hlen).mono ?_
    rintro e w' ⟨cs, rfl, hat, hsz, hcs, hb⟩
    exact ⟨_, _, rfl, fun _ => ⟨w.heap.size, 0, rfl, fun i hi => by rw [hat.cell, Nat.zero_add]; exact hcs i hi⟩, hb⟩

def uAt (zs : List Int) (i : Nat) : Int := zs.getD i 0
def UEq (n m : Nat) (zs ys : List Int) : Prop := n = m ∧ ∀ i, i < n → uAt zs i = uAt ys i
noncomputable def ueq (n m : Nat) (zs ys : List Int) : Bool := @decide (UEq n m zs ys) (Classical.propDecidable _)
theorem ueq_t {n m : Nat} {zs ys : List Int} (h : UEq n m zs ys) : ueq n m zs ys = true := by unfold ueq; simpa using h
theorem ueq_f {n m : Nat} {zs ys : List Int} (h : ¬ UEq n m zs ys) : ueq n m zs ys = false := by unfold ueq; simpa using h
theorem ueq_comm (n m : Nat) (zs ys : List Int) : ueq n m zs ys = ueq m n ys zs := by
  by_cases h : UEq n m zs ys
  · rw [ueq_t h, ueq_t ⟨h.1.symm, fun i hi => (h.2 i (by have := h.1; omega)).symm⟩]
  · rw [ueq_f h, ueq_f (fun k => h ⟨k.1.symm, fun i hi => (k.2 i (by have := k.1; omega)).symm⟩)]
theorem ueq_self (n : Nat) (zs : List Int) : ueq n n zs zs = true := ueq_t ⟨rfl, fun _ _ => rfl⟩
def BPost (g : Bool) (w : World) (e : Ending) (w' : World) : Prop := e = .returned (.bool g) ∧ Below w.heap.size w w'
def BPostQ (g : Bool) (w : World) (e : Ending) (w' : World) : Prop := e = .returned (.bool g) ∧ ∃ m, w' = w.drewN m
theorem BPostQ.below {g : Bool} {w : World} {e : Ending} {w' : World} (h : BPostQ g w e w') : BPost g w e w' := ⟨h.1, by obtain ⟨m, rfl⟩ := h.2; exact below_drewN (Below.refl _ _) _⟩
def URel (n : Nat) (zs ys : List Int) (w : World) (i : Value) (wr : World) : Prop :=
  ∃ k : Nat, k ≤ n ∧ i = .int .i64 k ∧ (∃ q, wr = w.drewN q) ∧ Hid (∀ j, j < k → uAt zs j = uAt ys j)

set_option maxRecDepth 100000 in
set_option maxHeartbeats 1000000 in
theorem u76 (a b : Option Addr) (n m c d : Nat) (zs ys : List Int) (w : World) (h : RowV w a n (fun i => .int .u16 (uAt zs i))) (h2 : RowV w b m (fun i => .int .u16 (uAt ys i))) (hn : n ≤ 1048576) (hm : m ≤ 1048576) :
    Calls Tryd.prog 76 #[.slice a n c, .slice b m d] w (BPostQ (ueq n m zs ys) w) := by
  have H := Lib.hid h
  have H2 := Lib.hid h2
  clear h h2
  by_cases hnm : n = m
  · subst hnm
    go_enter Tryd.func76, Tryd.ntmps76
    go_wp2_with fail
    go_loopw [14] (fun i wr => URel n zs ys w i wr) (fun i _ => n - (intOf i).toNat)
    case atStart => exact ⟨0, by omega, rfl, ⟨0, rfl⟩, Lib.hid (fun j hj => absurd hj (by omega))⟩
    case round =>
      obtain ⟨k, hk, rfl, ⟨q, rfl⟩, HA⟩ := hrel
      by_cases hlt : k < n
      · obtain ⟨B, off, rfl, hc⟩ := (H.out.drewN q) (by omega)
        obtain ⟨B2, off2, rfl, hc2⟩ := (H2.out.drewN q) (by omega)
        have c0 := hc k hlt
        have c1 := hc2 k hlt
        clear hc hc2
        obtain ⟨s, hs⟩ : ∃ s, s = uAt zs k := ⟨_, rfl⟩
        obtain ⟨t, ht⟩ : ∃ t, t = uAt ys k := ⟨_, rfl⟩
        simp only [← hs] at c0
        simp only [← ht] at c1
        have HS := Lib.hid hs
        have HT := Lib.hid ht
        clear hs ht
        obtain ⟨W, hW⟩ : ∃ W, W = w.drewN q := ⟨_, rfl⟩
        rw [← hW] at c0 c1 ⊢
        have HW := Lib.hid hW
        have hB' : B < W.heap.size := World.block_lt_of_cell? _ _ c0
        have hB2' : B2 < W.heap.size := World.block_lt_of_cell? _ _ c1
        clear hW
        by_cases e : s = t
        · have NS := Lib.hid (show ∀ j, j < k + 1 → uAt zs j = uAt ys j from fun j hj => by
            by_cases ej : j = k
            · subst ej; rw [← HS.out, ← HT.out]; assumption
            · exact HA.out j (by omega))
          clear HA HS HT
          subst e
          go_wp2_with fail
          
          go_roundw
          case rel => exact ⟨k + 1, by omega, by go_num, ⟨q, HW.out⟩, NS.out |> Lib.hid⟩
          case measure => simp [intOf]; omega
        · have NS := Lib.hid (show ¬ UEq n n zs ys from fun h => by have := h.2 k hlt; rw [← HS.out, ← HT.out] at this; exact e this)
          have e1 : (s == t) = false := beq_false_of_ne e
          have e2 : (s != t) = true := bne_iff_ne.2 e
          clear HA HS HT e
          go_wp2_with fail
          
          go_ret
          exact ⟨by rw [ueq_f NS.out]; rfl, by have := HW.out; subst this; first | exact ⟨_, rfl⟩ | exact ⟨_, World.drewN_drewN _ _ _⟩⟩
      · have e : k = n := by omega
        subst e
        have NS := Lib.hid (show UEq k k zs ys from ⟨rfl, HA.out⟩)
        go_wp2_with fail
        go_ret
        exact ⟨by rw [ueq_t NS.out]; rfl, ⟨q, rfl⟩⟩
  · have e1 : ((n : Int) != (m : Int)) = true := by simp; omega
    have e2 : ((n : Int) == (m : Int)) = false := by simp; omega
    have e3 : (n != m) = true := by simp; omega
    have e4 : (n == m) = false := by simp; omega
    have NS := Lib.hid (show ¬ UEq n m zs ys from fun h => hnm h.1)
    clear hnm
    go_enter Tryd.func76, Tryd.ntmps76
    go_wp2_with fail
    go_ret
    exact ⟨by rw [ueq_f NS.out]; rfl, ⟨0, rfl⟩⟩

set_option maxRecDepth 100000 in
set_option maxHeartbeats 1000000 in
theorem u48 (a b : Option Addr) (n m c d : Nat) (zs ys : List Int) (w : World) (h : RowV w a n (fun i => .int .u16 (uAt zs i))) (h2 : RowV w b m (fun i => .int .u16 (uAt ys i))) (hn : n ≤ 1048576) (hm : m ≤ 1048576) :
    Calls Tryd.prog 48 #[.slice a n c, .slice b m d] w (BPostQ (ueq n m zs ys) w) := by
  have H := Lib.hid h
  have H2 := Lib.hid h2
  clear h h2
  by_cases hnm : n = m
  · subst hnm
    go_enter Tryd.func48, Tryd.ntmps48
    go_wp2_with fail
    go_loopw [5] (fun i wr => URel n zs ys w i wr) (fun i _ => n - (intOf i).toNat)
    case atStart => exact ⟨0, by omega, rfl, ⟨0, rfl⟩, Lib.hid (fun j hj => absurd hj (by omega))⟩
    case round =>
      obtain ⟨k, hk, rfl, ⟨q, rfl⟩, HA⟩ := hrel
      by_cases hlt : k < n
      · obtain ⟨B, off, rfl, hc⟩ := (H.out.drewN q) (by omega)
        obtain ⟨B2, off2, rfl, hc2⟩ := (H2.out.drewN q) (by omega)
        have c0 := hc k hlt
        have c1 := hc2 k hlt
        clear hc hc2
        obtain ⟨s, hs⟩ : ∃ s, s = uAt zs k := ⟨_, rfl⟩
        obtain ⟨t, ht⟩ : ∃ t, t = uAt ys k := ⟨_, rfl⟩
        simp only [← hs] at c0
        simp only [← ht] at c1
        have HS := Lib.hid hs
        have HT := Lib.hid ht
        clear hs ht
        obtain ⟨W, hW⟩ : ∃ W, W = w.drewN q := ⟨_, rfl⟩
        rw [← hW] at c0 c1 ⊢
        have HW := Lib.hid hW
        have hB' : B < W.heap.size := World.block_lt_of_cell? _ _ c0
        have hB2' : B2 < W.heap.size := World.block_lt_of_cell? _ _ c1
        clear hW
        by_cases e : s = t
        · have NS := Lib.hid (show ∀ j, j < k + 1 → uAt zs j = uAt ys j from fun j hj => by
            by_cases ej : j = k
            · subst ej; rw [← HS.out, ← HT.out]; assumption
            · exact HA.out j (by omega))
          clear HA HS HT
          subst e
          go_wp2_with fail
          go_quiet (fail)
          go_wp2_with fail
          go_roundw
          case rel => exact ⟨k + 1, by omega, by go_num, (by have := HW.out; subst this; first | exact ⟨_, World.drewN_drewN _ _ _⟩ | exact ⟨_, rfl⟩), NS.out |> Lib.hid⟩
          case measure => simp [intOf]; omega
        · have NS := Lib.hid (show ¬ UEq n n zs ys from fun h => by have := h.2 k hlt; rw [← HS.out, ← HT.out] at this; exact e this)
          have e1 : (s == t) = false := beq_false_of_ne e
          have e2 : (s != t) = true := bne_iff_ne.2 e
          clear HA HS HT e
          go_wp2_with fail
          go_quiet (fail)
          go_wp2_with fail
          go_ret
          exact ⟨by rw [ueq_f NS.out]; rfl, by have := HW.out; subst this; first | exact ⟨_, rfl⟩ | exact ⟨_, World.drewN_drewN _ _ _⟩⟩
      · have e : k = n := by omega
        subst e
        have NS := Lib.hid (show UEq k k zs ys from ⟨rfl, HA.out⟩)
        go_wp2_with fail
        go_ret
        exact ⟨by rw [ueq_t NS.out]; rfl, ⟨q, rfl⟩⟩
  · have e1 : ((n : Int) != (m : Int)) = true := by simp; omega
    have e2 : ((n : Int) == (m : Int)) = false := by simp; omega
    have e3 : (n != m) = true := by simp; omega
    have e4 : (n == m) = false := by simp; omega
    have NS := Lib.hid (show ¬ UEq n m zs ys from fun h => hnm h.1)
    clear hnm
    go_enter Tryd.func48, Tryd.ntmps48
    go_wp2_with fail
    go_ret
    exact ⟨by rw [ueq_f NS.out]; rfl, ⟨0, rfl⟩⟩

def hS (zs : List Int) : Nat → Nat
  | 0 => 4
  | k + 1 => (hc (hS zs k : Int) (uAt zs k)).toNat
theorem hS_step (zs : List Int) (k : Nat) : ((hS zs (k + 1) : Nat) : Int) = hc (hS zs k : Int) (uAt zs k) := Int.toNat_of_nonneg (hc_range _ _).1
theorem hS_le (zs : List Int) (k : Nat) : hS zs k ≤ 4294967295 := by
  cases k with
  | zero => simp [hS]
  | succ k => have := hc_range (hS zs k : Int) (uAt zs k); simp only [hS]; omega
/-- A string's node. -/
def SAt (w : World) (p : Nat) (a : Option Addr) (n c : Nat) : Prop := At w p 225 #[.slice a n c, .int .i32 0, .bool false, .bool false, .bool false]
def SP (a : Option Addr) (n c : Nat) (W : World) (e : Ending) (w' : World) : Prop := ∃ p, e = .returned (.agg #[.iface 223 (.pointer (some ⟨p, 0, none⟩)), .int .i32 0]) ∧ SAt w' p a n c ∧ W.heap.size ≤ p ∧ Below W.heap.size W w'
theorem mkS (a : Option Addr) (n c : Nat) (w : World) : Calls Tryd.prog 23 #[.slice a n c] w (SP a n c w) := by
  go_enter Tryd.func23, Tryd.ntmps23
  go_wp2_with fail
  exact bodyPost_ret (v := .agg #[.iface 223 (.pointer (some ⟨w.heap.size + 1, 0, none⟩)), .int .i32 0]) (by simp [results, Tryd.results23, go_sem]) rfl ⟨w.heap.size + 1, rfl, by
    have := At.new (w.alloc (.cells #[.iface 223 (.pointer (some ⟨w.heap.size + 1, 0, none⟩)), .int .i32 0] 35)) 225 #[.slice a n c, .int .i32 0, .bool false, .bool false, .bool false]
    rwa [show (w.alloc (.cells #[.iface 223 (.pointer (some ⟨w.heap.size + 1, 0, none⟩)), .int .i32 0] 35)).heap.size = w.heap.size + 1 from by simp] at this, by omega, (by repeat (first | with_reducible exact Below.refl _ _ | (with_reducible refine Below.drew ?_) | (with_reducible refine Below.alloc ?_ (by simp; try omega) _) | (with_reducible refine Below.setCell ?_ (by simp; try omega) _)))⟩
def HR (n : Nat) (zs : List Int) (w : World) (h i : Value) (wr : World) : Prop := ∃ k : Nat, k ≤ n ∧ i = .int .i64 k ∧ h = .int .u32 (hS zs k : Int) ∧ Hid (Below w.heap.size w wr)
set_option maxRecDepth 100000 in
set_option maxHeartbeats 1000000 in
theorem hashS (p : Nat) (a : Option Addr) (n c : Nat) (zs : List Int) (w : World) (hp : SAt w p a n c) (hr : RowV w a n (fun i => .int .u16 (uAt zs i))) (hn : n ≤ 1048576) (hz : ∀ i, 0 ≤ uAt zs i ∧ uAt zs i ≤ 65535) :
    Calls Tryd.prog 47 #[.agg #[.iface 223 (.pointer (some ⟨p, 0, none⟩)), .int .i32 0]] w fun e w' => e = .returned (.tuple #[.int .u32 (hS zs n : Int), .bool true]) ∧ Below w.heap.size w w' := by
  have h1 : w.cell? ⟨p, 0, none⟩ = some (.slice a n c) := by rw [hp.cell]; rfl
  have lp : p < w.heap.size := hp.lt
  have HRR := Lib.hid hr
  have HZ := Lib.hid hz
  clear hr hz hp
  go_enter Tryd.func47, Tryd.ntmps47
  go_wp2_with fail
  go_loopw [11, 77] (fun h i wr => HR n zs w h i wr) (fun _ i _ => n - (intOf i).toNat)
  case atStart => exact ⟨0, by omega, rfl, rfl, Lib.hid (by repeat (first | with_reducible exact Below.refl _ _ | (with_reducible refine Below.drew ?_) | (with_reducible refine Below.alloc ?_ (by simp; try omega) _) | (with_reducible refine Below.setCell ?_ (by simp; try omega) _)))⟩
  case round =>
    obtain ⟨k, hk, rfl, rfl, HB⟩ := hrel
    by_cases hlt : k < n
    · obtain ⟨B, off, rfl, hcl⟩ := (HRR.out.below HB.out) (by omega)
      have c0 := hcl k hlt
      have lB := World.block_lt_of_cell? _ _ c0
      obtain ⟨x, hx⟩ : ∃ x, x = uAt zs k := ⟨_, rfl⟩
      simp only [← hx] at c0
      have hx0 : 0 ≤ x ∧ x ≤ 65535 := by rw [hx]; exact HZ.out k
      obtain ⟨hx1, hx2⟩ := hx0
      have HX := Lib.hid hx
      obtain ⟨h, hh⟩ : ∃ h, h = hS zs k := ⟨_, rfl⟩
      rw [← hh]
      have ST := Lib.hid (show (hS zs (k + 1) : Int) = hc (h : Int) x from by rw [hS_step, hh, hx])
      clear hcl hx hh
      go_wp2_with fail
      refine (hcomb _ _ _).mono ?_
      rintro e w1 ⟨rfl, rfl⟩
      go_wp2_with fail
      go_roundw
      case rel => exact ⟨k + 1, by omega, by go_num, by rw [ST.out], HB⟩
      case measure => simp [intOf]; omega
    · have e : k = n := by omega
      subst e
      go_wp2_with fail
      go_ret2
      exact ⟨rfl, HB.out⟩
set_option maxRecDepth 100000 in
set_option maxHeartbeats 1000000 in
theorem eqS (p q : Nat) (a a' : Option Addr) (k k' c c' : Nat) (zs zs' : List Int) (w : World) (h1 : SAt w p a k c) (h2 : SAt w q a' k' c') (r1 : RowV w a k (fun i => .int .u16 (uAt zs i))) (r2 : RowV w a' k' (fun i => .int .u16 (uAt zs' i))) (b1 : k ≤ 1048576) (b2 : k' ≤ 1048576) :
    Calls Tryd.prog 55 #[.agg #[.iface 223 (.pointer (some ⟨p, 0, none⟩)), .int .i32 0], .agg #[.iface 223 (.pointer (some ⟨q, 0, none⟩)), .int .i32 0]] w fun e w' => e = .returned (.tuple #[.bool (ueq k k' zs zs'), .bool false]) ∧ Below w.heap.size w w' := by
  have lp : p < w.heap.size := h1.lt
  have lq : q < w.heap.size := h2.lt
  have lp1 : p < w.heap.size + 1 := by omega
  have lq1 : q < w.heap.size + 1 := by omega
  have lp2 : p < w.heap.size + 1 + 1 := by omega
  have lq2 : q < w.heap.size + 1 + 1 := by omega
  have c1 : w.cell? ⟨p, 0, none⟩ = some (.slice a k c) := by rw [h1.cell]; rfl
  have c2 : w.cell? ⟨q, 0, none⟩ = some (.slice a' k' c') := by rw [h2.cell]; rfl
  have HC := Lib.hid (show ∀ W, Below w.heap.size w W → Calls Tryd.prog 76 #[.slice a k c, .slice a' k' c'] W (BPostQ (ueq k k' zs zs') W) from fun W hW => u76 a a' k k' c c' zs zs' W (r1.below hW) (r2.below hW) b1 b2)
  clear r1 r2 h1 h2
  obtain ⟨g, hg⟩ : ∃ g, g = ueq k k' zs zs' := ⟨_, rfl⟩
  rw [← hg] at HC ⊢
  clear hg
  go_enter Tryd.func55, Tryd.ntmps55
  go_wp2_with fail
  go_quiet ((go_at_call 76; exact Calls.quiet_of (HC.out _ (by repeat (first | with_reducible exact Below.refl _ _ | (with_reducible refine Below.drew ?_) | (with_reducible refine below_drewN ?_ _) | (with_reducible refine Below.alloc ?_ (by simp; try omega) _))))))
  go_wp2_with fail
  go_ret2
  exact ⟨rfl, (by repeat (first | with_reducible exact Below.refl _ _ | (with_reducible refine Below.drew ?_) | (with_reducible refine below_drewN ?_ _) | (with_reducible refine Below.alloc ?_ (by simp; try omega) _)))⟩
theorem zdce (x y : Value) (l : Int) (b1 b2 : Bool) (w : World) (t t' p q : Nat) (H : ∀ W', Below w.heap.size w W' → Calls Tryd.prog 55 #[.agg #[.iface t (.pointer (some ⟨p, 0, none⟩)), .int .i32 0], .agg #[.iface t' (.pointer (some ⟨q, 0, none⟩)), .int .i32 0]] W' fun e w' => e = .returned (.tuple #[.bool b1, .bool b2]) ∧ Below W'.heap.size W' w') :
    Calls Tryd.prog 24 #[.agg #[.iface t (.pointer (some ⟨p, 0, none⟩)), .int .i32 0], .agg #[.iface t' (.pointer (some ⟨q, 0, none⟩)), .int .i32 0]] w fun e w' => e = .returned (.tuple #[.bool b1, .bool b2]) ∧ Below w.heap.size w w' := by
  have HH := Lib.hid H
  clear H
  go_enter Tryd.func24, Tryd.ntmps24
  go_wp2_with fail
  refine (HH.out _ (by repeat (first | with_reducible exact Below.refl _ _ | (with_reducible refine Below.drew ?_) | (with_reducible refine Below.alloc ?_ (by simp; try omega) _) | (with_reducible refine Below.setCell ?_ (by simp; try omega) _)))).mono ?_
  rintro e w1 ⟨rfl, hb⟩
  have B1 := Lib.hid (show Below w.heap.size w w1 from ((by repeat (first | with_reducible exact Below.refl _ _ | (with_reducible refine Below.drew ?_) | (with_reducible refine Below.alloc ?_ (by simp; try omega) _) | (with_reducible refine Below.setCell ?_ (by simp; try omega) _))) : Below w.heap.size w _).trans (hb.mono (by simp; try omega)))
  clear hb
  go_wp2_with fail
  go_ret2
  exact ⟨rfl, B1.out⟩
theorem ckVal (D T q : Nat) (a : Option Addr) (n c g : Nat) (w : World) (i : Nat) (ha : a = some ⟨g, 0, none⟩) (hD : w.cell? ⟨D, 0, none⟩ = some (.slice a n c)) (hi : i < n) (hn : n ≤ 1048576) (h0 : w.cell? ⟨g, i * 3, none⟩ = some (.iface T (.pointer (some ⟨q, 0, none⟩)))) (h1 : w.cell? ⟨g, i * 3 + 1, none⟩ = some (.int .i32 0)) :
    Calls Tryd.prog 25 #[.pointer (some ⟨D, 0, none⟩), .int .i64 (i : Int)] w fun e w' => e = .returned (.agg #[.iface T (.pointer (some ⟨q, 0, none⟩)), .int .i32 0]) ∧ Below w.heap.size w w' := by
  subst ha
  have lD := World.block_lt_of_cell? _ _ hD
  have lg := World.block_lt_of_cell? _ _ h0
  go_enter Tryd.func25, Tryd.ntmps25
  go_wp2_with fail
  exact bodyPost_ret (v := .agg #[.iface T (.pointer (some ⟨q, 0, none⟩)), .int .i32 0]) (by simp [results, Tryd.results25, go_sem, *]) rfl ⟨rfl, (by repeat (first | with_reducible exact Below.refl _ _ | (with_reducible refine Below.drew ?_) | (with_reducible refine Below.alloc ?_ (by simp; try omega) _) | (with_reducible refine Below.setCell ?_ (by simp; try omega) _)))⟩
/-- Its hash is refused. -/
def NoHash (t p : Nat) (w : World) : Prop := ∀ W, Below w.heap.size w W → Calls Tryd.prog 47 #[.agg #[.iface t (.pointer (some ⟨p, 0, none⟩)), .int .i32 0]] W fun e w' => e = .returned (.tuple #[.int .u32 0, .bool false]) ∧ Below W.heap.size W w'
def JP (w : World) (e : Ending) (w' : World) : Prop := ∃ t p, e = .returned (.agg #[.iface t (.pointer (some ⟨p, 0, none⟩)), .int .i32 0]) ∧ NoHash t p w' ∧ Below w.heap.size w w'
theorem NoHash.below {t p : Nat} {w w' : World} (h : NoHash t p w) (hb : Below w.heap.size w w') : NoHash t p w' := fun W hW => h W (bel2 hb hW)
set_option maxRecDepth 100000 in
theorem hashArr (p : Nat) (w : World) : Calls Tryd.prog 47 #[.agg #[.iface 255 (.pointer (some ⟨p, 0, none⟩)), .int .i32 0]] w fun e w' => e = .returned (.tuple #[.int .u32 0, .bool false]) ∧ Below w.heap.size w w' := by
  go_enter Tryd.func47, Tryd.ntmps47
  go_wp2_with fail
  go_ret2
  exact ⟨rfl, (by repeat (first | with_reducible exact Below.refl _ _ | (with_reducible refine Below.drew ?_) | (with_reducible refine Below.alloc ?_ (by simp; try omega) _) | (with_reducible refine Below.setCell ?_ (by simp; try omega) _)))⟩
set_option maxRecDepth 100000 in
theorem hashNull (p : Nat) (w : World) : Calls Tryd.prog 47 #[.agg #[.iface 281 (.pointer (some ⟨p, 0, none⟩)), .int .i32 0]] w fun e w' => e = .returned (.tuple #[.int .u32 0, .bool true]) ∧ Below w.heap.size w w' := by
  go_enter Tryd.func47, Tryd.ntmps47
  go_wp2_with fail
  go_ret2
  exact ⟨rfl, (by repeat (first | with_reducible exact Below.refl _ _ | (with_reducible refine Below.drew ?_) | (with_reducible refine Below.alloc ?_ (by simp; try omega) _) | (with_reducible refine Below.setCell ?_ (by simp; try omega) _)))⟩

set_option maxRecDepth 100000 in
theorem hashEnum (p q : Nat) (w : World) (h0 : w.cell? ⟨p, 0, none⟩ = some (.iface 255 (.pointer (some ⟨q, 0, none⟩)))) (h1 : w.cell? ⟨p, 1, none⟩ = some (.int .i32 0)) : Calls Tryd.prog 47 #[.agg #[.iface 278 (.pointer (some ⟨p, 0, none⟩)), .int .i32 0]] w fun e w' => e = .returned (.tuple #[.int .u32 0, .bool false]) ∧ Below w.heap.size w w' := by
  have lp : p < w.heap.size := World.block_lt_of_cell? _ _ h0
  go_enter Tryd.func47, Tryd.ntmps47
  go_wp2_with fail
  refine (hashArr q _).mono ?_
  rintro e w1 ⟨rfl, hb⟩
  have B1 := Lib.hid (show Below w.heap.size w w1 from ((by repeat (first | with_reducible exact Below.refl _ _ | (with_reducible refine Below.drew ?_) | (with_reducible refine Below.alloc ?_ (by simp; try omega) _) | (with_reducible refine Below.setCell ?_ (by simp; try omega) _))) : Below w.heap.size w _).trans (hb.mono (by simp; try omega)))
  clear hb
  go_wp2_with fail
  go_ret2
  exact ⟨rfl, B1.out⟩
set_option maxRecDepth 100000 in
theorem hashDot (p q : Nat) (w : World) (h0 : w.cell? ⟨p, 0, none⟩ = some (.iface 255 (.pointer (some ⟨q, 0, none⟩)))) (h1 : w.cell? ⟨p, 1, none⟩ = some (.int .i32 0)) : Calls Tryd.prog 47 #[.agg #[.iface 262 (.pointer (some ⟨p, 0, none⟩)), .int .i32 0]] w fun e w' => e = .returned (.tuple #[.int .u32 0, .bool false]) ∧ Below w.heap.size w w' := by
  have lp : p < w.heap.size := World.block_lt_of_cell? _ _ h0
  go_enter Tryd.func47, Tryd.ntmps47
  go_wp2_with fail
  refine (hashArr q _).mono ?_
  rintro e w1 ⟨rfl, hb⟩
  have B1 := Lib.hid (show Below w.heap.size w w1 from ((by repeat (first | with_reducible exact Below.refl _ _ | (with_reducible refine Below.drew ?_) | (with_reducible refine Below.alloc ?_ (by simp; try omega) _) | (with_reducible refine Below.setCell ?_ (by simp; try omega) _))) : Below w.heap.size w _).trans (hb.mono (by simp; try omega)))
  clear hb
  go_wp2_with fail
  go_ret2
  exact ⟨rfl, B1.out⟩
set_option maxRecDepth 100000 in
theorem hashIdxA (p q : Nat) (w : World) (h0 : w.cell? ⟨p, 0, none⟩ = some (.iface 255 (.pointer (some ⟨q, 0, none⟩)))) (h1 : w.cell? ⟨p, 1, none⟩ = some (.int .i32 0)) : Calls Tryd.prog 47 #[.agg #[.iface 296 (.pointer (some ⟨p, 0, none⟩)), .int .i32 0]] w fun e w' => e = .returned (.tuple #[.int .u32 0, .bool false]) ∧ Below w.heap.size w w' := by
  have lp : p < w.heap.size := World.block_lt_of_cell? _ _ h0
  go_enter Tryd.func47, Tryd.ntmps47
  go_wp2_with fail
  refine (hashArr q _).mono ?_
  rintro e w1 ⟨rfl, hb⟩
  have B1 := Lib.hid (show Below w.heap.size w w1 from ((by repeat (first | with_reducible exact Below.refl _ _ | (with_reducible refine Below.drew ?_) | (with_reducible refine Below.alloc ?_ (by simp; try omega) _) | (with_reducible refine Below.setCell ?_ (by simp; try omega) _))) : Below w.heap.size w _).trans (hb.mono (by simp; try omega)))
  clear hb
  go_wp2_with fail
  go_ret2
  exact ⟨rfl, B1.out⟩
set_option maxRecDepth 100000 in
theorem hashIdxN (p q r : Nat) (w : World) (h0 : w.cell? ⟨p, 0, none⟩ = some (.iface 281 (.pointer (some ⟨q, 0, none⟩)))) (h1 : w.cell? ⟨p, 1, none⟩ = some (.int .i32 0)) (h2 : w.cell? ⟨p, 2, none⟩ = some (.iface 255 (.pointer (some ⟨r, 0, none⟩)))) (h3 : w.cell? ⟨p, 3, none⟩ = some (.int .i32 0)) : Calls Tryd.prog 47 #[.agg #[.iface 296 (.pointer (some ⟨p, 0, none⟩)), .int .i32 0]] w fun e w' => e = .returned (.tuple #[.int .u32 0, .bool false]) ∧ Below w.heap.size w w' := by
  have lp : p < w.heap.size := World.block_lt_of_cell? _ _ h0
  go_enter Tryd.func47, Tryd.ntmps47
  go_wp2_with fail
  refine (hashNull q _).mono ?_
  rintro e w1 ⟨rfl, hb⟩
  have B1 := Lib.hid (show Below w.heap.size w w1 from ((by repeat (first | with_reducible exact Below.refl _ _ | (with_reducible refine Below.drew ?_) | (with_reducible refine Below.alloc ?_ (by simp; try omega) _) | (with_reducible refine Below.setCell ?_ (by simp; try omega) _))) : Below w.heap.size w _).trans (hb.mono (by simp; try omega)))
  have k2 := kept B1.out h2
  have k3 := kept B1.out h3
  have lp1 := World.block_lt_of_cell? _ _ k2
  clear hb h0 h1 h2 h3
  go_wp2_with fail
  refine (hashArr r _).mono ?_
  rintro e w2 ⟨rfl, hb⟩
  have B2 := Lib.hid (bel2 B1.out hb)
  clear hb
  go_wp2_with fail
  go_ret2
  exact ⟨rfl, B2.out⟩
set_option maxRecDepth 100000 in
theorem chkJ (D P t p : Nat) (W : World) (H : NoHash t p W) : Calls Tryd.prog 46 #[.pointer (some ⟨D, 0, none⟩), .pointer (some ⟨P, 0, none⟩), .agg #[.iface t (.pointer (some ⟨p, 0, none⟩)), .int .i32 0]] W fun e w' => e = .returned (.tuple #[]) ∧ Below W.heap.size W w' := by
  have HH := Lib.hid H
  clear H
  go_enter Tryd.func46, Tryd.ntmps46
  go_wp2_with fail
  refine (HH.out _ (by repeat (first | with_reducible exact Below.refl _ _ | (with_reducible refine Below.drew ?_) | (with_reducible refine Below.alloc ?_ (by simp; try omega) _) | (with_reducible refine Below.setCell ?_ (by simp; try omega) _)))).mono ?_
  rintro e w1 ⟨rfl, hb⟩
  have B1 := Lib.hid (show Below W.heap.size W w1 from ((by repeat (first | with_reducible exact Below.refl _ _ | (with_reducible refine Below.drew ?_) | (with_reducible refine Below.alloc ?_ (by simp; try omega) _) | (with_reducible refine Below.setCell ?_ (by simp; try omega) _))) : Below W.heap.size W _).trans (hb.mono (by simp; try omega)))
  clear hb
  go_wp2_with fail
  go_end0
  exact ⟨rfl, B1.out⟩
theorem zcheckJ (D P t p : Nat) (W : World) (H : NoHash t p W) : Calls Tryd.prog 13 #[.pointer (some ⟨D, 0, none⟩), .pointer (some ⟨P, 0, none⟩), .agg #[.iface t (.pointer (some ⟨p, 0, none⟩)), .int .i32 0]] W fun e w' => e = .returned (.tuple #[]) ∧ Below W.heap.size W w' := by
  have HH := Lib.hid (fun (w' : World) (hb : Below W.heap.size W w') => chkJ D P t p w' (H.below hb))
  clear H
  go_enter Tryd.func13, Tryd.ntmps13
  go_wp2_with fail
  refine (HH.out _ (by repeat (first | with_reducible exact Below.refl _ _ | (with_reducible refine Below.drew ?_) | (with_reducible refine Below.alloc ?_ (by simp; try omega) _) | (with_reducible refine Below.setCell ?_ (by simp; try omega) _)))).mono ?_
  rintro e w1 ⟨rfl, hb⟩
  have B1 := Lib.hid (show Below W.heap.size W w1 from ((by repeat (first | with_reducible exact Below.refl _ _ | (with_reducible refine Below.drew ?_) | (with_reducible refine Below.alloc ?_ (by simp; try omega) _) | (with_reducible refine Below.setCell ?_ (by simp; try omega) _))) : Below W.heap.size W _).trans (hb.mono (by simp; try omega)))
  clear hb
  go_wp2_with fail
  go_end0
  exact ⟨rfl, B1.out⟩
end Go.Proofs.YtjlmaingeobgeaaDoor
