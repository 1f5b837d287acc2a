/- Proved here: the guards and the copies of a list of strings; two checkers side by side. Conditions as stated. -/
import Derived.Test.YtjlmaingeobgeaaDoorDLB
import Derived.WalkKit
import Derived.WalkSpells
import Derived.WalkLawsBesides
import Derived.Lib.Hide
import Derived.Lib.SliceRun
import Derived.Deep.RegionWith
import Derived.OwnWalk
import Derived.Laws.OwnMore
import Derived.Deep.QuietTactic
import Derived.BigQuiet
import Derived.BigRegion
namespace Go.Proofs.YtjlmaingeobgeaaDoor
open Go.RowKit
set_option linter.unusedSimpArgs false
set_option linter.unusedVariables false

theorem IsRow.below {k : IntKind} {w w1 : World} {a : Option Addr} {len cap : Nat} {zs : List Int} (h : IsRow k w a len cap zs) (hb : Below w.heap.size w w1) : IsRow k w1 a len cap zs := by
  rcases h with h | ⟨x, e1, e2, e3, e4, hc, hw⟩
  · exact .inl h
  · refine .inr ⟨x, e1, e2, e3, e4, fun i hi => ?_, hw⟩
    have := hc i hi
    obtain ⟨b, off, rfl⟩ := spot_none (hc 0 (by omega))
    rw [add_none] at this ⊢
    exact kept hb this
theorem u16_range {w : World} {a : Option Addr} {n c : Nat} {zs : List Int} (h : IsRow .u16 w a n c zs) : ∀ i, 0 ≤ uAt zs i ∧ uAt zs i ≤ 65535 := fun i => by
  rcases (len_ints h).2.2 i with h | h
  · exact wf_u16 h
  · simp [uAt, List.getD, List.getElem?_eq_none h]
theorem rows_cells {w : World} {a : Option Addr} {n c : Nat} {A : Nat → Option Addr} {L C : Nat → Nat} {Z : Nat → List Int} (h : IsRows .u16 w a n c A L C Z) : RowV w a n (fun i => .slice (A i) (L i) (C i)) := by
  intro hp
  rcases h with ⟨_, rfl, _⟩ | ⟨x, rfl, hl, hm, hcell⟩
  · omega
  · obtain ⟨b, off, rfl⟩ := spot_none (hcell 0 (by omega)).1
    exact ⟨b, off, rfl, fun i hi => by rw [← add_none]; exact (hcell i (by omega)).1⟩
theorem rows_row {w : World} {a : Option Addr} {n c : Nat} {A : Nat → Option Addr} {L C : Nat → Nat} {Z : Nat → List Int} (h : IsRows .u16 w a n c A L C Z) {i : Nat} (hi : i < n) : IsRow .u16 w (A i) (L i) (C i) (Z i) := by
  rcases h with ⟨_, rfl, _⟩ | ⟨x, rfl, hl, hm, hcell⟩
  · omega
  · exact (hcell i (by omega)).2
theorem rowsLen {w : World} {a : Option Addr} {n c : Nat} {A : Nat → Option Addr} {L C : Nat → Nat} {Z : Nat → List Int} (h : IsRows .u16 w a n c A L C Z) : n ≤ maxLen := by
  rcases h with ⟨_, rfl, _⟩ | ⟨x, rfl, hl, hm, hcell⟩
  · unfold maxLen; omega
  · omega
/-- A row of rows of uint16. -/
def RowsV (w : World) (a : Option Addr) (n : Nat) (A : Nat → Option Addr) (L C : Nat → Nat) (Z : Nat → List Int) : Prop :=
  RowV w a n (fun i => .slice (A i) (L i) (C i)) ∧ ∀ i, i < n → RowV w (A i) (L i) (fun t => .int .u16 (uAt (Z i) t))
theorem RowsV.below {w w' : World} {a : Option Addr} {n : Nat} {A : Nat → Option Addr} {L C : Nat → Nat} {Z : Nat → List Int} (h : RowsV w a n A L C Z) (hb : Below w.heap.size w w') : RowsV w' a n A L C Z := ⟨h.1.below hb, fun i hi => (h.2 i hi).below hb⟩
theorem rowsV {w : World} {a : Option Addr} {n c : Nat} {A : Nat → Option Addr} {L C : Nat → Nat} {Z : Nat → List Int} (h : IsRows .u16 w a n c A L C Z) : RowsV w a n A L C Z := ⟨rows_cells h, fun i hi => rowv_ints (rows_row h hi)⟩
def CFr (len : Nat) (f : Nat → Value) (w : World) (e : Ending) (w' : World) : Prop :=
  ∃ a' cap', e = .returned (.slice a' len cap') ∧ RowV w' a' len f ∧ (∀ g, a' = some g → w.heap.size ≤ g.block) ∧ Below w.heap.size w w'
theorem cpS_fresh (a : Option Addr) (len cap : Nat) (zs : List Int) (w : World) (h : IsRow .u16 w a len cap zs) (hlen : len ≤ 1048576) :
    Calls Tryd.prog 49 #[.slice a len cap] w (CFr len (fun i => .int .u16 (uAt zs i)) w) := by
  rcases h with ⟨rfl, rfl, rfl, rfl⟩ | ⟨x, rfl, hl, hm, hz, hcell, hwz⟩
  · refine (cpS_nil w).mono ?_
    rintro e w' ⟨rfl, rfl⟩
    exact ⟨none, 0, rfl, fun h => absurd h (by omega), (fun g hg => by cases hg), Below.refl _ _⟩
  · refine (cpS_some x len cap zs w (by omega) hcell hlen).mono ?_
    rintro e w' ⟨cs, rfl, hat, hsz, hcs, hb⟩
    exact ⟨_, _, rfl, fun _ => ⟨w.heap.size, 0, rfl, fun i hi => by rw [hat.cell, Nat.zero_add]; exact hcs i hi⟩, (fun g hg => by cases hg; exact Nat.le_refl _), hb⟩
def Cl20 (n : Nat) (L : Nat → Nat) (Z : Nat → List Int) (w : World) (e : Ending) (w' : World) : Prop := ∃ a' c' A' C', e = .returned (.slice a' n c') ∧ RowsV w' a' n A' L C' Z ∧ Below w.heap.size w w'
def R20 (n : Nat) (L : Nat → Nat) (Z : Nat → List Int) (w : World) (i : Value) (wr : World) : Prop :=
  ∃ (k : Nat) (cs : Array Value) (A' : Nat → Option Addr) (C' : Nat → Nat), k ≤ n ∧ i = .int .i64 k ∧ Hid (At wr w.heap.size 47 cs) ∧ Hid (cs.size = n) ∧ Hid (∀ j, j < k → cs[j]? = some (.slice (A' j) (L j) (C' j)) ∧ RowV wr (A' j) (L j) (fun t => .int .u16 (uAt (Z j) t)) ∧ ∀ g, A' j = some g → w.heap.size < g.block) ∧ Hid (Below w.heap.size w wr)
theorem cl20_nil (L : Nat → Nat) (Z : Nat → List Int) (w : World) : Calls Tryd.prog 20 #[.slice none 0 0] w (Cl20 0 L Z w) := by
  have qT : ∀ (w : World) (a : Option Addr) (n c n' c' : Nat), (binOp .eql 44 (.slice a n c) (.slice none n' c')).run Tryd.prog w = .ok (.bool a.isNone) w := fun w a n c n' c' => Lib.run_eql_slice_nil w 44 47 a n c n' c' Tryd.underlying44
  go_enter Tryd.func20, Tryd.ntmps20
  go_wp2_with fail
  go_ret
  exact ⟨none, 0, fun _ => none, fun _ => 0, rfl, ⟨fun h => absurd h (by omega), fun i hi => absurd hi (by omega)⟩, Below.refl _ _⟩
set_option maxRecDepth 100000 in
set_option maxHeartbeats 1000000 in
theorem cl20_some (x : Addr) (n c : Nat) (A : Nat → Option Addr) (L C : Nat → Nat) (Z : Nat → List Int) (w : World) (h : IsRows .u16 w (some x) n c A L C Z) (hn : n ≤ 1048576) (hL : ∀ i, i < n → L i ≤ 1048576) :
    Calls Tryd.prog 20 #[.slice (some x) n c] w (Cl20 n L Z w) := by
  have qT : ∀ (w : World) (a : Option Addr) (n c n' c' : Nat), (binOp .eql 44 (.slice a n c) (.slice none n' c')).run Tryd.prog w = .ok (.bool a.isNone) w := fun w a n c n' c' => Lib.run_eql_slice_nil w 44 47 a n c n' c' Tryd.underlying44
  have hmk := made (P := Tryd.prog) (t := 44) (e := 47) (z := .slice none 0 0) (sz := 1) (by_ := 24) Tryd.underlying44 (by kernel_rfl) w n (by omega) (by omega)
  rw [Nat.mul_one] at hmk
  have HC := Lib.hid (rows_cells h)
  have HI := Lib.hid (fun (i : Nat) (hi : i < n) => rows_row h hi)
  have HL := Lib.hid hL
  clear h hL
  go_enter Tryd.func20, Tryd.ntmps20
  go_wp2_with fail
  clear hmk
  go_loopw [4] (fun i wr => R20 n L Z w i wr) (fun i _ => n - (intOf i).toNat)
  case atStart => exact ⟨0, _, fun _ => none, fun _ => 0, Nat.zero_le _, rfl, Lib.hid (At.new _ _ _), Lib.hid (by simp [size_madeCells, Value.cells]), Lib.hid (fun j hj => absurd hj (by omega)), Lib.hid ((Below.refl _ _).alloc (Nat.le_refl _) _)⟩
  case round =>
    obtain ⟨k, cs, A', C', hk, rfl, HAT, HSZ, HCS, HB⟩ := hrel
    by_cases hlt : k < n
    · obtain ⟨B, off, e, hcl⟩ := (HC.out.below HB.out) (by omega)
      cases e
      have c0 := hcl k hlt
      have lB := World.block_lt_of_cell? _ _ c0
      have HK := Lib.hid (cpS_fresh (A k) (L k) (C k) (Z k) wr ((HI.out k hlt).below HB.out) (HL.out k hlt))
      obtain ⟨ak, hak⟩ : ∃ a, a = A k := ⟨_, rfl⟩
      obtain ⟨lk, hlk⟩ : ∃ a, a = L k := ⟨_, rfl⟩
      obtain ⟨ck, hck⟩ : ∃ a, a = C k := ⟨_, rfl⟩
      simp only [← hak, ← hlk, ← hck] at c0
      rw [← hak, ← hlk, ← hck] at HK
      have HLK := Lib.hid hlk
      clear hcl hak hlk hck
      go_wp2_with fail
      refine HK.out.mono ?_
      rintro e w2 ⟨a2, c2, rfl, hr2, hfr2, hb2⟩
      have hsz := HB.out.size
      have hat2 := HAT.out.below hb2 HAT.out.lt
      have hd : w2.cell? ⟨w.heap.size, k, none⟩ = some (cs[k]'(by rw [HSZ.out]; exact hlt)) := by rw [hat2.cell k]; simp [HSZ.out, hlt]
      have hf := hat2.frozen k
      have lW := hat2.lt
      have HA2 := Lib.hid hat2
      have HB2 := Lib.hid (HB.out.trans (hb2.mono hsz))
      have NX := Lib.hid (show ∀ j, j < k + 1 → (cs.setIfInBounds k (.slice a2 lk c2))[j]? = some (.slice ((fun t => if t = k then a2 else A' t) j) (L j) ((fun t => if t = k then c2 else C' t) j)) ∧ RowV (w2.setCell ⟨w.heap.size, k, none⟩ (.slice a2 lk c2)) ((fun t => if t = k then a2 else A' t) j) (L j) (fun t => .int .u16 (uAt (Z j) t)) ∧ ∀ g, ((fun t => if t = k then a2 else A' t) j) = some g → w.heap.size < g.block from fun j hj => by
        have K : ∀ (a : Option Addr) (l : Nat) (f : Nat → Value), RowV w2 a l f → (∀ g, a = some g → w.heap.size < g.block) → RowV (w2.setCell ⟨w.heap.size, k, none⟩ (.slice a2 lk c2)) a l f := fun a l f hr hg hp => by
          obtain ⟨B, off, rfl, hc⟩ := hr hp
          exact ⟨B, off, rfl, fun i hi => kSet (hc i hi) (by have := hg _ rfl; simp at this; omega)⟩
        by_cases e : j = k
        · subst e
          simp only [if_true]
          have hg2 : ∀ g, a2 = some g → w.heap.size < g.block := fun g hg => by have := hfr2 g hg; have := HAT.out.lt; omega
          exact ⟨by simp [HSZ.out, hlt, HLK.out], K _ _ _ (by rw [← HLK.out]; exact hr2) hg2, hg2⟩
        · have h0 := HCS.out j (by omega)
          simp only [if_neg e]
          refine ⟨by rw [Array.getElem?_setIfInBounds_ne (by omega)]; exact h0.1, K _ _ _ (h0.2.1.below hb2) h0.2.2, h0.2.2⟩)
      clear hb2 hr2 hfr2 hat2 HK HAT HCS c0 lB
      go_wp2_with fail
      go_roundw
      case rel => exact ⟨k + 1, _, _, _, by omega, by go_num, Lib.hid (HA2.out.set k _), Lib.hid (by simp [HSZ.out]), NX, Lib.hid (HB2.out.setCell (Nat.le_refl _) _)⟩
      case measure => simp [intOf]; omega
    · have e : k = n := by omega
      subst e
      go_wp2_with fail
      go_ret
      exact ⟨_, _, A', C', rfl, ⟨fun _ => ⟨w.heap.size, 0, rfl, fun i hi => by rw [HAT.out.cell, Nat.zero_add]; exact (HCS.out i hi).1⟩, fun i hi => (HCS.out i hi).2.1⟩, HB.out⟩

def SB (w : World) (e : Ending) (w' : World) : Prop := (∃ b, e = .returned (.bool b)) ∧ w = w'
def R18 (n : Nat) (w : World) (z i : Value) (wr : World) : Prop := ∃ k t : Nat, k ≤ n ∧ t ≤ 1048576 ∧ z = .int .i64 t ∧ i = .int .i64 k ∧ w = wr
theorem w64 (n : Int) (h : -9223372036854775808 ≤ n ∧ n ≤ 9223372036854775807) : wrap64 n = n := by unfold wrap64; omega
set_option maxRecDepth 100000 in
theorem bytes18 (a a1 : Option Addr) (n c n1 c1 : Nat) (A : Nat → Option Addr) (L C : Nat → Nat) (w : World) (hr : RowV w a n (fun i => .slice (A i) (L i) (C i))) (hL : ∀ i, i < n → L i ≤ maxLen) (hn : n ≤ maxLen) (hn1 : n1 ≤ maxLen) :
    Calls Tryd.prog 18 #[.slice a n c, .slice a1 n1 c1] w (SB w) := by
  unfold maxLen at hn hn1
  have HR := Lib.hid hr
  have HL := Lib.hid hL
  clear hr hL
  by_cases hbig : 1048576 < n
  · go_enter Tryd.func18, Tryd.ntmps18
    go_wp2_with fail
    go_ret
    exact ⟨⟨_, rfl⟩, rfl⟩
  · go_enter Tryd.func18, Tryd.ntmps18
    go_wp2_with fail
    go_loopw [5, 6] (fun z i wr => R18 n w z i wr) (fun _ i _ => n - (intOf i).toNat)
    case atStart => exact ⟨0, n, by omega, by omega, rfl, rfl, rfl⟩
    case round =>
      obtain ⟨k, t, hk, ht, rfl, rfl, rfl⟩ := hrel
      by_cases hlt : k < n
      · obtain ⟨B, off, rfl, hc⟩ := HR.out (by omega)
        have c0 := hc k hlt
        have hB := World.block_lt_of_cell? _ _ c0
        have hl := HL.out k hlt
        obtain ⟨s, hs⟩ : ∃ s, s = L k := ⟨_, rfl⟩
        obtain ⟨x, hx⟩ : ∃ s, s = A k := ⟨_, rfl⟩
        obtain ⟨y, hy⟩ : ∃ s, s = C k := ⟨_, rfl⟩
        simp only [← hs, ← hx, ← hy] at c0
        rw [← hs] at hl
        unfold maxLen at hl
        clear hs hx hy hc
        by_cases h1 : 1048576 < s
        · go_wp2_with fail
          go_ret
          exact ⟨⟨_, rfl⟩, rfl⟩
        · have h1' : s ≤ 1048576 := by omega
          have hw := w64 ((t : Int) + (s : Int)) (by omega)
          by_cases h2 : 1048576 < t + s
          · have h3 : (1048576 : Int) < (t : Int) + (s : Int) := by omega
            go_wp2_with fail
            go_ret
            exact ⟨⟨_, rfl⟩, rfl⟩
          · have h3 : ¬ (1048576 : Int) < (t : Int) + (s : Int) := by omega
            go_wp2_with fail
            go_roundw
            case rel => exact ⟨k + 1, t + s, by omega, by omega, by go_num, by go_num, rfl⟩
            case measure => simp [intOf]; omega
      · have e : k = n := by omega
        subst e
        by_cases h1 : 1048576 < n1
        · go_wp2_with fail
          go_ret
          exact ⟨⟨_, rfl⟩, rfl⟩
        · have h1' : n1 ≤ 1048576 := by omega
          have hw := w64 ((t : Int) + (n1 : Int)) (by omega)
          by_cases h2 : 1048576 < t + n1
          · have h3 : (1048576 : Int) < (t : Int) + (n1 : Int) := by omega
            go_wp2_with fail
            go_ret
            exact ⟨⟨_, rfl⟩, rfl⟩
          · have h3 : ¬ (1048576 : Int) < (t : Int) + (n1 : Int) := by omega
            go_wp2_with fail
            go_ret
            exact ⟨⟨_, rfl⟩, rfl⟩
def sne (L : Nat → Nat) (Z : Nat → List Int) (i j : Nat) : Prop := ueq (L i) (L j) (Z i) (Z j) = false
def DP19 (n : Nat) (L : Nat → Nat) (Z : Nat → List Int) (w : World) (e : Ending) (w' : World) : Prop := (∃ b, e = .returned (.bool b) ∧ (b = true → ∀ s t, s < t → t < n → sne L Z s t)) ∧ ∃ q, w' = w.drewN q
def EI (n : Nat) (L : Nat → Nat) (Z : Nat → List Int) (w : World) (i : Value) (wr : World) : Prop := ∃ k : Nat, k ≤ n ∧ i = .int .i64 k ∧ (∃ q, wr = w.drewN q) ∧ Hid (∀ s t, s < k → s < t → t < n → sne L Z s t)
def EJ (n : Nat) (L : Nat → Nat) (Z : Nat → List Int) (k : Nat) (w : World) (j : Value) (wr : World) : Prop := ∃ m : Nat, k < m ∧ m ≤ n ∧ j = .int .i64 m ∧ (∃ q, wr = w.drewN q) ∧ Hid (∀ t, k < t → t < m → sne L Z k t)
set_option maxRecDepth 100000 in
set_option maxHeartbeats 1000000 in
theorem dist19 (a : Option Addr) (n c : Nat) (A : Nat → Option Addr) (L C : Nat → Nat) (Z : Nat → List Int) (w : World) (h : RowsV w a n A L C Z) (hn : n ≤ 1048576) (hL : ∀ i, i < n → L i ≤ 1048576) :
    Calls Tryd.prog 19 #[.slice a n c] w (DP19 n L Z w) := by
  have H := Lib.hid h
  have HL := Lib.hid hL
  clear h hL
  go_enter Tryd.func19, Tryd.ntmps19
  go_wp2_with fail
  go_loopw [3] (fun i wr => EI n L Z w i wr) (fun i _ => n - (intOf i).toNat)
  case atStart => exact ⟨0, by omega, rfl, ⟨0, rfl⟩, Lib.hid (fun s t hs _ _ => absurd hs (by omega))⟩
  case round =>
    obtain ⟨k, hk, rfl, ⟨q, rfl⟩, HA⟩ := hrel
    by_cases hlt : k < n
    · obtain ⟨W, hW⟩ : ∃ W, W = w.drewN q := ⟨_, rfl⟩
      rw [← hW]
      have HW := Lib.hid hW
      clear hW
      go_wp2_with fail
      go_loopw [4] (fun j wr => EJ n L Z k w j wr) (fun j _ => n - (intOf j).toNat)
      case atStart => exact ⟨k + 1, by omega, by omega, by go_num, ⟨q, HW.out⟩, Lib.hid (fun t h1 h2 => absurd h1 (by omega))⟩
      case round =>
        obtain ⟨m, hkm, hm, rfl, ⟨q2, hq2⟩, HB⟩ := hrel
        have HQ := Lib.hid hq2
        clear hq2
        by_cases hlt2 : m < n
        · have R := H.out.1.drewN q2
          rw [← HQ.out] at R
          obtain ⟨B, off, rfl, hc⟩ := R (by omega)
          have c0 := hc k hlt
          have c1 := hc m hlt2
          have lB := World.block_lt_of_cell? _ _ c0
          have CC := Lib.hid (show ∀ (qq : Nat), Calls Tryd.prog 48 #[.slice (A k) (L k) (C k), .slice (A m) (L m) (C m)] (wr.drewN qq) (BPostQ (ueq (L k) (L m) (Z k) (Z m)) (wr.drewN qq)) from fun qq => u48 (A k) (A m) (L k) (L m) (C k) (C m) (Z k) (Z m) (wr.drewN qq) (by rw [HQ.out]; exact H.out.2 k hlt) (by rw [HQ.out]; exact H.out.2 m hlt2) (HL.out k hlt) (HL.out m hlt2))
          obtain ⟨g, hg⟩ : ∃ g, g = ueq (L k) (L m) (Z k) (Z m) := ⟨_, rfl⟩
          rw [← hg] at CC
          have HGG := Lib.hid hg
          obtain ⟨x0, e0⟩ : ∃ x, x = A k := ⟨_, rfl⟩
          obtain ⟨x1, e1⟩ : ∃ x, x = L k := ⟨_, rfl⟩
          obtain ⟨x2, e2⟩ : ∃ x, x = C k := ⟨_, rfl⟩
          obtain ⟨y0, f0⟩ : ∃ x, x = A m := ⟨_, rfl⟩
          obtain ⟨y1, f1⟩ : ∃ x, x = L m := ⟨_, rfl⟩
          obtain ⟨y2, f2⟩ : ∃ x, x = C m := ⟨_, rfl⟩
          simp only [← e0, ← e1, ← e2] at c0
          simp only [← f0, ← f1, ← f2] at c1
          rw [← e0, ← e1, ← e2, ← f0, ← f1, ← f2] at CC
          clear hc R hg e0 e1 e2 f0 f1 f2
          cases g with
          | true =>
            go_wp2_with fail
            go_quiet ((go_at_call 48; exact Calls.quiet_of (CC.out _)))
            go_wp2_with fail
            go_ret
            exact ⟨⟨false, rfl, fun h => by cases h⟩, by have := HQ.out; subst this; exact ⟨_, World.drewN_drewN _ _ _⟩⟩
          | false =>
            have N1 := Lib.hid (show ∀ t, k < t → t < m + 1 → sne L Z k t from fun t h1 h2 => by
              by_cases e : t = m
              · subst e
                exact HGG.out.symm
              · exact HB.out t h1 (by omega))
            go_wp2_with fail
            go_quiet ((go_at_call 48; exact Calls.quiet_of (CC.out _)))
            go_wp2_with fail
            go_roundw
            case rel => exact ⟨m + 1, by omega, by omega, by go_num, by have := HQ.out; subst this; exact ⟨_, World.drewN_drewN _ _ _⟩, N1⟩
            case measure => simp [intOf]; omega
        · have e : m = n := by omega
          subst e
          have N1 := Lib.hid (show ∀ s t, s < k + 1 → s < t → t < m → sne L Z s t from fun s t h1 h2 h3 => by
            by_cases e : s = k
            · subst e; exact HB.out t h2 h3
            · exact HA.out s t (by omega) h2 h3)
          go_wp2_with fail
          go_roundw
          case rel => exact ⟨k + 1, by omega, by go_num, ⟨q2, HQ.out⟩, N1⟩
          case measure => simp [intOf]; omega
    · have e : k = n := by omega
      subst e
      go_wp2_with fail
      go_ret
      exact ⟨⟨true, rfl, fun _ s t h1 h2 => HA.out s t (by omega) h1 h2⟩, ⟨q, rfl⟩⟩

/-- Two checkers side by side: D1 has seen the first m1 strings, D2 the first m2. -/
structure TW (lo D1 D2 n : Nat) (A : Nat → Option Addr) (L C : Nat → Nat) (Z : Nat → List Int) (w5 : World) (m1 m2 : Nat) (v1 : Value) (its1 : List (Nat × Nat)) (v2 : Value) (its2 : List (Nat × Nat)) (wr : World) : Prop where
  c1 : CK wr lo D1 v1 its1 (fun i => hS (Z i) (L i)) 223
  c2 : CK wr lo D2 v2 its2 (fun i => hS (Z i) (L i)) 223
  n1 : its1.map Prod.fst = nb (fun i => hS (Z i) (L i)) m1
  n2 : its2.map Prod.fst = nb (fun i => hS (Z i) (L i)) m2
  a1 : ∀ x, x ∈ its1 → x.1 < m1 ∧ SAt wr x.2 (A x.1) (L x.1) (C x.1)
  a2 : ∀ x, x ∈ its2 → x.1 < m2 ∧ SAt wr x.2 (A x.1) (L x.1) (C x.1)
  d : D1 ≠ D2
  o1 : v1.ownBlock ≠ some D2
  o2 : v2.ownBlock ≠ some D1
  o3 : ∀ g, v1.ownBlock = some g → v2.ownBlock ≠ some g
  b : Below lo w5 wr
theorem TW.swap {lo D1 D2 n : Nat} {A : Nat → Option Addr} {L C : Nat → Nat} {Z : Nat → List Int} {w5 : World} {m1 m2 : Nat} {v1 : Value} {its1 : List (Nat × Nat)} {v2 : Value} {its2 : List (Nat × Nat)} {wr : World} (h : TW lo D1 D2 n A L C Z w5 m1 m2 v1 its1 v2 its2 wr) : TW lo D2 D1 n A L C Z w5 m2 m1 v2 its2 v1 its1 wr :=
  ⟨h.c2, h.c1, h.n2, h.n1, h.a2, h.a1, h.d.symm, h.o2, h.o1, fun g h2 h1 => h.o3 g h1 h2, h.b⟩
theorem TW.below {lo D1 D2 n : Nat} {A : Nat → Option Addr} {L C : Nat → Nat} {Z : Nat → List Int} {w5 : World} {m1 m2 : Nat} {v1 : Value} {its1 : List (Nat × Nat)} {v2 : Value} {its2 : List (Nat × Nat)} {wr w' : World} (h : TW lo D1 D2 n A L C Z w5 m1 m2 v1 its1 v2 its2 wr) (hlo : lo ≤ wr.heap.size) (hb : Below wr.heap.size wr w') : TW lo D1 D2 n A L C Z w5 m1 m2 v1 its1 v2 its2 w' :=
  ⟨h.c1.below hb, h.c2.below hb, h.n1, h.n2, fun x hx => ⟨(h.a1 x hx).1, (h.a1 x hx).2.below hb (h.a1 x hx).2.lt⟩, fun x hx => ⟨(h.a2 x hx).1, (h.a2 x hx).2.below hb (h.a2 x hx).2.lt⟩, h.d, h.o1, h.o2, h.o3, h.b.trans (hb.mono hlo)⟩
theorem CK.lt {w : World} {lo D : Nat} {v : Value} {its : List (Nat × Nat)} {f : Nat → Nat} {T : Nat} (h : CK w lo D v its f T) : D < w.heap.size := by
  obtain ⟨cs, bs, h1, _⟩ := h.bits
  exact h1.lt
theorem SAt.keep {w w' : World} {lo D : Nat} {v : Value} {its : List (Nat × Nat)} {f : Nat → Nat} {T p n c : Nat} {a : Option Addr} (h : SAt w p a n c) (hc : CK w lo D v its f T) (hf : Fr2 D v w w') : SAt w' p a n c := by
  have hD : p ≠ D := by
    rintro rfl
    obtain ⟨cs, bs, h1, _⟩ := hc.bits
    unfold SAt At at h
    unfold At at h1
    rw [h1] at h
    simp at h
  exact (hf.2 p (show At w p 225 _ from h).lt hD (atNe hc.row h (by decide))).trans h
theorem TW.step {lo D1 D2 n : Nat} {A : Nat → Option Addr} {L C : Nat → Nat} {Z : Nat → List Int} {w5 : World} {m1 m2 q : Nat} {v1 : Value} {its1 : List (Nat × Nat)} {v2 : Value} {its2 : List (Nat × Nat)} {wr w' : World} {e : Ending} (h : TW lo D1 D2 n A L C Z w5 m1 m2 v1 its1 v2 its2 wr) (hq : SAt wr q (A m1) (L m1) (C m1))
    (hp : CP lo D1 v1 its1 (fun i => hS (Z i) (L i)) 223 m1 q wr e w') : ∃ v', e = .returned (.tuple #[]) ∧ TW lo D1 D2 n A L C Z w5 (m1 + 1) m2 v' (push (fun i => hS (Z i) (L i)) its1 m1 q) v2 its2 w' := by
  obtain ⟨v', rfl, hck, hfr, hbl, hv⟩ := hp
  have l1 := h.c1.lt
  have l2 := h.c2.lt
  have l3 : ∀ g, v2.ownBlock = some g → g < wr.heap.size := fun g hg => (World.ownsRow.lt h.c2.row g hg).2
  refine ⟨v', rfl, hck, ?_, push_fst h.n1, h.n2, fun x hx => ?_, fun x hx => ⟨(h.a2 x hx).1, (h.a2 x hx).2.keep h.c1 hfr⟩, h.d, ?_, h.o2, fun g hg hg2 => ?_, h.b.trans hbl⟩
  · obtain ⟨cs, bs, h1, h2⟩ := h.c2.bits
    refine ⟨h.c2.low, ⟨cs, bs, (hfr.2 D2 l2 h.d.symm h.o1).trans h1, h2⟩, ownKeep h.c2.row (fun g hg => hfr.2 g (l3 g hg) (fun e => h.o2 (e ▸ hg)) (fun e => h.o3 g e hg)), h.c2.ne⟩
  · rcases push_mem hx with hx | rfl
    · exact ⟨by have := (h.a1 x hx).1; omega, (h.a1 x hx).2.keep h.c1 hfr⟩
    · exact ⟨by simp, hq.keep h.c1 hfr⟩
  · rcases hv with rfl | hv
    · exact h.o1
    · intro e
      rcases hv D2 e with h1 | h1
      · exact h.o1 h1
      · omega
  · rcases hv with rfl | hv
    · exact h.o3 g hg hg2
    · rcases hv g hg with h1 | h1
      · exact h.o3 g h1 hg2
      · have := l3 g hg2; omega
/-- A string is checked on D1. -/
theorem TW.check {lo D1 D2 P n : Nat} {A : Nat → Option Addr} {L C : Nat → Nat} {Z : Nat → List Int} {w5 : World} {m1 m2 q : Nat} {v1 : Value} {its1 : List (Nat × Nat)} {v2 : Value} {its2 : List (Nat × Nat)} {wr : World} (h : TW lo D1 D2 n A L C Z w5 m1 m2 v1 its1 v2 its2 wr) (hq : SAt wr q (A m1) (L m1) (C m1))
    (hlo : lo ≤ wr.heap.size) (hl5 : lo = w5.heap.size) (hm : m1 < n) (hn : n ≤ 1024) (hL : ∀ i, i < n → L i ≤ 524288) (hZ : ∀ i, i < n → ∀ t, 0 ≤ uAt (Z i) t ∧ uAt (Z i) t ≤ 65535) (hD : ∀ s t, s < t → t < n → sne L Z s t) (hr : ∀ i, i < n → RowV w5 (A i) (L i) (fun t => .int .u16 (uAt (Z i) t))) :
    Calls Tryd.prog 13 #[.pointer (some ⟨D1, 0, none⟩), .pointer (some ⟨P, 0, none⟩), .agg #[.iface 223 (.pointer (some ⟨q, 0, none⟩)), .int .i32 0]] wr (fun e w' => ∃ v', e = .returned (.tuple #[]) ∧ TW lo D1 D2 n A L C Z w5 (m1 + 1) m2 v' (push (fun i => hS (Z i) (L i)) its1 m1 q) v2 its2 w') := by
  have hlen : its1.length ≤ 65536 := by
    have h1 := congrArg List.length h.n1
    have h2 := nb_len (fun i => hS (Z i) (L i)) m1
    simp at h1
    omega
  have rows : ∀ (W : World), Below wr.heap.size wr W → ∀ i, i < n → RowV W (A i) (L i) (fun t => .int .u16 (uAt (Z i) t)) := fun W hb i hi => (hr i hi).below (by have := h.b.trans (hb.mono hlo); rw [hl5] at this; exact this)
  refine (zcheck lo D1 P v1 its1 (fun i => hS (Z i) (L i)) 223 m1 q wr (fun W' hW' => chk lo D1 P v1 its1 (fun i => hS (Z i) (L i)) 223 m1 q W' (Nat.le_trans hlo hW'.size) (hS_le _ _) hlen (h.c1.below hW')
    (fun W2 hb => hashS q (A m1) (L m1) (C m1) (Z m1) W2 ((hq.below hW' hq.lt).below hb (hq.below hW' hq.lt).lt) (rows W2 (bel2 hW' hb) m1 hm) (by have := hL m1 hm; omega) (hZ m1 hm))
    (fun y hy _ W2 hb => by
      have hy1 := h.a1 y hy
      have hy2 := hy1.2.below hW' hy1.2.lt
      have hy3 := hy2.below hb hy2.lt
      have hq3 := (hq.below hW' hq.lt).below hb (hq.below hW' hq.lt).lt
      have := eqS y.2 q (A y.1) (A m1) (L y.1) (L m1) (C y.1) (C m1) (Z y.1) (Z m1) W2 hy3 hq3 (rows W2 (bel2 hW' hb) y.1 (by omega)) (rows W2 (bel2 hW' hb) m1 hm) (by have := hL y.1 (by omega); omega) (by have := hL m1 hm; omega)
      rw [show ueq (L y.1) (L m1) (Z y.1) (Z m1) = false from hD y.1 m1 hy1.1 hm] at this
      exact this)) hlo).mono ?_
  exact fun e w' hp => h.step hq hp
end Go.Proofs.YtjlmaingeobgeaaDoor
