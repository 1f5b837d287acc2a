/- Proved here: the walk of the law FnBindingHasObjectRestContextInvariant, for every input. -/
import Derived.Test.YtjcblmbndkacgaaBOB
import Derived.WalkKit
import Derived.WalkSpells
import Derived.WalkLawsBesides
import Derived.Lib.Hide
import Derived.Lib.SliceRun
import Derived.Deep.RegionWith
import Derived.OwnWalk
import Derived.Laws.OwnMore
import Derived.Deep.AppendLies
namespace Go.Proofs.Ytjcblmbndkacgaa.fnBindingHasObjectRestContextInvariant
open Go.RowKit
set_option linter.unusedSimpArgs false
set_option linter.unusedVariables false

/-- A slice that reads as f at each index below len; nil where len is 0 is let in. -/
def RowV (w : World) (a : Option Addr) (len : Nat) (f : Nat → Value) : Prop :=
  0 < len → ∃ B off, a = some ⟨B, off, none⟩ ∧ ∀ i, i < len → w.cell? ⟨B, off + i, none⟩ = some (f i)
theorem RowV.below {w w' : World} {a : Option Addr} {len : Nat} {f : Nat → Value} (h : RowV w a len f) (hb : Below w.heap.size w w') : RowV w' a len f := fun hp => by
  obtain ⟨B, off, e, hc⟩ := h hp
  exact ⟨B, off, e, fun i hi => kept hb (hc i hi)⟩
def ClonedV (len : Nat) (f : Nat → Value) (w : World) (e : Ending) (w' : World) : Prop :=
  ∃ a' cap', e = .returned (.slice a' len cap') ∧ RowV w' a' len f ∧ Below w.heap.size w w'
theorem rowv_ints {k : IntKind} {w : World} {a : Option Addr} {len cap : Nat} {zs : List Int} (h : IsRow k w a len cap zs) : RowV w a len (fun i => .int k (zs.getD i 0)) := by
  intro hp
  rcases h with ⟨_, rfl, _⟩ | ⟨x, rfl, hl, hm, hz, hcell, _⟩
  · omega
  · obtain ⟨b, off, rfl⟩ := spot_none (hcell 0 (by omega))
    exact ⟨b, off, rfl, fun i hi => by rw [← add_none]; exact hcell i (by omega)⟩
theorem rowv_bools {w : World} {a : Option Addr} {len cap : Nat} {zs : List Bool} (h : IsBools w a len cap zs) : RowV w a len (fun i => .bool (zs.getD i false)) := by
  intro hp
  rcases h with ⟨_, rfl, _⟩ | ⟨x, rfl, hl, hm, hz, hcell⟩
  · omega
  · obtain ⟨b, off, rfl⟩ := spot_none (hcell 0 (by omega))
    exact ⟨b, off, rfl, fun i hi => by rw [← add_none]; exact hcell i (by omega)⟩
theorem rowv_strs {w : World} {a : Option Addr} {len cap : Nat} {zs : List ByteArray} (h : IsStrs w a len cap zs) : RowV w a len (fun i => .string (zs.getD i ByteArray.empty)) := by
  intro hp
  rcases h with ⟨_, rfl, _⟩ | ⟨x, rfl, hl, hm, hz, hcell, _⟩
  · omega
  · obtain ⟨b, off, rfl⟩ := spot_none (hcell 0 (by omega))
    exact ⟨b, off, rfl, fun i hi => by rw [← add_none]; exact hcell i (by omega)⟩
theorem len_ints {k : IntKind} {w : World} {a : Option Addr} {len cap : Nat} {zs : List Int} (h : IsRow k w a len cap zs) : len ≤ maxLen ∧ len ≤ zs.length ∧ ∀ i, (Lit.int k (zs.getD i 0)).wf = true ∨ zs.length ≤ i := by
  rcases h with ⟨_, rfl, _, rfl⟩ | ⟨x, rfl, hl, hm, hz, hcell, hw⟩
  · exact ⟨by unfold maxLen; omega, by simp, fun i => .inr (by simp)⟩
  · refine ⟨by omega, by omega, fun i => ?_⟩
    by_cases hi : i < zs.length
    · left; exact hw _ (by simp [List.getD, hi])
    · right; omega
theorem len_bools {w : World} {a : Option Addr} {len cap : Nat} {zs : List Bool} (h : IsBools w a len cap zs) : len ≤ maxLen := by
  rcases h with ⟨_, rfl, _, rfl⟩ | ⟨x, rfl, hl, hm, hz, hcell⟩
  · unfold maxLen; omega
  · omega
theorem len_strs {w : World} {a : Option Addr} {len cap : Nat} {zs : List ByteArray} (h : IsStrs w a len cap zs) : len ≤ maxLen ∧ ∀ i, (zs.getD i ByteArray.empty).size ≤ maxLen := by
  rcases h with ⟨_, rfl, _, rfl⟩ | ⟨x, rfl, hl, hm, hz, hcell, hw⟩
  · exact ⟨by unfold maxLen; omega, fun i => by simp⟩
  · refine ⟨by omega, fun i => ?_⟩
    by_cases hi : i < zs.length
    · exact hw _ (by simp [List.getD, hi])
    · simp [List.getD, hi]

/-- What the copy 'cpU8' hands back of a slice that is not nil. -/
def cpU8Post (len : Nat) (zs : List Int) (w : World) (e : Ending) (w' : World) : Prop :=
  ∃ cs, e = .returned (.slice (some ⟨w.heap.size, 0, none⟩) len len) ∧ At w' w.heap.size 5 cs ∧ cs.size = len ∧ (∀ i, i < len → cs[i]? = some (.int .u8 (zs.getD i 0))) ∧ Below w.heap.size w w'
def cpU8Rel (len : Nat) (zs : List Int) (w : World) (i : Value) (wr : World) : Prop :=
  ∃ (k : Nat) (cs : Array Value), k ≤ len ∧ i = .int .i64 k ∧ At wr w.heap.size 5 cs ∧ cs.size = len ∧ (∀ j, j < k → cs[j]? = some (.int .u8 (zs.getD j 0))) ∧ Below w.heap.size w wr
theorem cpU8_nil (w : World) : Calls Try.prog 20 #[.slice none 0 0] w fun e w' => e = .returned (.slice none 0 0) ∧ w = w' := by
  have qT : ∀ (w : World) (a : Option Addr) (n c n' c' : Nat), (binOp .eql 38 (.slice a n c) (.slice none n' c')).run Try.prog w = .ok (.bool a.isNone) w := fun w a n c n' c' => Lib.run_eql_slice_nil w 38 5 a n c n' c' Try.underlying38
  go_enter Try.func20, Try.ntmps20
  go_wp2_with fail
  go_ret
  exact ⟨rfl, rfl⟩
set_option maxRecDepth 100000 in
set_option maxHeartbeats 1000000 in
theorem cpU8_some (x : Addr) (len cap : Nat) (zs : List Int) (w : World) (hz : len ≤ zs.length) (hcell : ∀ i, i < zs.length → w.cell? (x.add i) = some (.int .u8 (zs.getD i 0))) (hlen : len ≤ 1048576) :
    Calls Try.prog 20 #[.slice (some x) len cap] w (cpU8Post len zs w) := by
  have qT : ∀ (w : World) (a : Option Addr) (n c n' c' : Nat), (binOp .eql 38 (.slice a n c) (.slice none n' c')).run Try.prog w = .ok (.bool a.isNone) w := fun w a n c n' c' => Lib.run_eql_slice_nil w 38 5 a n c n' c' Try.underlying38
  have hmk := made (P := Try.prog) (t := 38) (e := 5) (z := .int .u8 0) (sz := 1) (by_ := 1) Try.underlying38 (by kernel_rfl) w len (by omega) (by omega)
  rw [Nat.mul_one] at hmk
  have HC := Lib.hid hcell
  clear hcell
  go_enter Try.func20, Try.ntmps20
  go_wp2_with fail
  go_loopw [4] (fun i wr => cpU8Rel len zs w i wr) (fun i _ => len - (intOf i).toNat)
  case atStart => exact ⟨0, _, Nat.zero_le _, rfl, At.new _ _ _, by simp [size_madeCells, Value.cells], fun j hj => absurd hj (by omega), (Below.refl _ _).alloc (Nat.le_refl _) _⟩
  case round =>
    obtain ⟨k, cs, hk, rfl, hat, hsz, hcs, hb⟩ := hrel
    by_cases hlt : k < len
    · have hc := HC.out k (by omega)
      obtain ⟨b, off, rfl⟩ := spot_none (HC.out 0 (by omega))
      rw [add_none] at hc
      have hc1 : wr.cell? ⟨b, off + k, none⟩ = some (.int .u8 (zs.getD k 0)) := by
        exact kept hb hc
      have hd : wr.cell? ⟨w.heap.size, k, none⟩ = some cs[k] := by rw [hat.cell k]; simp [hsz, hlt]
      have hf := hat.frozen k
      clear hc
      have HAT := Lib.hid hat
      have HCS := Lib.hid hcs
      have HSZ := Lib.hid hsz
      clear hat hcs
      go_wp2_with fail
      go_roundw
      case rel =>
        refine ⟨k + 1, _, by omega, by go_num, HAT.out.set k _, by simp [HSZ.out], ?_, hb.setCell (Nat.le_refl _) _⟩
        intro j hj
        by_cases e : j = k
        · subst e; simp [HSZ.out, hlt]
        · rw [Array.getElem?_setIfInBounds_ne (by omega)]; exact HCS.out j (by omega)
      case measure => simp [intOf]; omega
    · have e : k = len := by omega
      subst e
      have HAT := Lib.hid hat
      have HCS := Lib.hid hcs
      have HSZ := Lib.hid hsz
      clear hat hcs hsz
      go_wp2_with fail
      go_ret
      exact ⟨cs, rfl, HAT.out, HSZ.out, HCS.out, hb⟩

theorem cpU8_any (a : Option Addr) (len cap : Nat) (zs : List Int) (w : World) (h : IsRow .u8 w a len cap zs) (hlen : len ≤ 1048576) :
    Calls Try.prog 20 #[.slice a len cap] w (ClonedV len (fun i => .int .u8 (zs.getD i 0)) w) := by
  rcases h with ⟨rfl, rfl, rfl, rfl⟩ | ⟨x, rfl, hl, hm, hz, hcell, hwz⟩
  · refine (cpU8_nil w).mono ?_
    rintro e w' ⟨rfl, rfl⟩
    exact ⟨none, 0, rfl, fun h => absurd h (by omega), Below.refl _ _⟩
  · refine (cpU8_some x len cap zs w (by omega) hcell hlen).mono ?_
    rintro e w' ⟨cs, rfl, hat, hsz, hcs, hb⟩
    exact ⟨_, _, rfl, fun _ => ⟨w.heap.size, 0, rfl, fun i hi => by rw [hat.cell, Nat.zero_add]; exact hcs i hi⟩, hb⟩

set_option maxRecDepth 100000 in
theorem bytes_yes (a : Option Addr) (n cap : Nat) (b : Int) (x y : Bool) (w : World) (h1 : n ≤ 1048576) :
    Calls Try.prog 19 #[.slice a n cap, .int .u8 b, .bool x, .bool y] w fun e w' => e = .returned (.bool true) ∧ w = w' := by
  go_enter Try.func19, Try.ntmps19
  go_wp2_with fail
  go_ret
  exact ⟨rfl, rfl⟩
set_option maxRecDepth 100000 in
theorem bytes_no (a : Option Addr) (n cap : Nat) (b : Int) (x y : Bool) (w : World) (h1 : 1048576 < n) :
    Calls Try.prog 19 #[.slice a n cap, .int .u8 b, .bool x, .bool y] w fun e w' => e = .returned (.bool false) ∧ w = w' := by
  go_enter Try.func19, Try.ntmps19
  go_wp2_with fail
  go_ret
  exact ⟨rfl, rfl⟩
set_option maxRecDepth 100000 in
theorem early (a : Option Addr) (n cap : Nat) (b : Int) (x y : Bool) (w : World) (h1 : n ≤ maxLen) (h : 65536 < n) :
    Calls Try.prog 6 #[.slice a n cap, .int .u8 b, .bool x, .bool y] w fun e w' => e = .returned (.bool true) ∧ Below w.heap.size w w' := by
  unfold maxLen at h1
  by_cases c : n ≤ 1048576
  · have H := Lib.hid (bytes_yes a n cap b x y w c)
    go_enter Try.func6, Try.ntmps6
    go_wp2_with fail
    refine H.out.mono ?_
    rintro e w' ⟨rfl, rfl⟩
    go_wp2_with fail
    go_ret
    exact ⟨rfl, Below.refl _ _⟩
  · have H := Lib.hid (bytes_no a n cap b x y w (by omega))
    go_enter Try.func6, Try.ntmps6
    go_wp2_with fail
    refine H.out.mono ?_
    rintro e w' ⟨rfl, rfl⟩
    go_wp2_with fail
    go_ret
    exact ⟨rfl, Below.refl _ _⟩
set_option maxRecDepth 100000 in
theorem bh22 {B : Nat} {w : World} {d : Value} {t : Bool} (h : BH B w d t) (W : World) (hW : Ex B w W) : Calls Try.prog 22 #[.agg #[d, .int .i32 0]] W (QB t W) := by
  have H := Lib.hid (fun o => h (W.alloc o) (hW.alloc o))
  clear h
  go_enter Try.func22, Try.ntmps22
  go_wp2_with fail
  refine (H.out _).mono ?_
  rintro e w1 ⟨rfl, hb⟩
  go_wp2_with fail
  go_ret
  exact ⟨rfl, ((Below.refl _ _).alloc (Nat.le_refl _) _).trans (hb.mono (by simp))⟩
/-- The cells xs are j properties (array items): at the place at the datum dI, else names; the one at that place is spread if sp. -/
def RawO (xs : List Value) (j at_ : Nat) (dI : Value) (sp : Bool) : Prop := xs.length = j * 11 ∧ ∀ q, q < j → ∃ d, ((q = at_ → d = dI) ∧ (q ≠ at_ → ∃ b, d = .iface 83 (.pointer (some ⟨b, 0, none⟩)))) ∧ xs[q * 11]? = some (.nilIface) ∧ xs[q * 11 + 1]? = some (.int .i32 0) ∧ xs[q * 11 + 2]? = some (d) ∧ xs[q * 11 + 3]? = some (.int .i32 0) ∧ xs[q * 11 + 4]? = some (.nilIface) ∧ xs[q * 11 + 5]? = some (.int .i32 0) ∧ xs[q * 11 + 6]? = some (.int .i32 0) ∧ xs[q * 11 + 7]? = some (.int .i32 0) ∧ xs[q * 11 + 8]? = some (.bool false) ∧ xs[q * 11 + 9]? = some (.bool (decide (q = at_) && sp)) ∧ xs[q * 11 + 10]? = some (.bool false)
def RawA (xs : List Value) (j at_ : Nat) (dI : Value) : Prop := xs.length = j * 5 ∧ ∀ q, q < j → ∃ d, ((q = at_ → d = dI) ∧ (q ≠ at_ → ∃ b, d = .iface 83 (.pointer (some ⟨b, 0, none⟩)))) ∧ xs[q * 5]? = some (d) ∧ xs[q * 5 + 1]? = some (.int .i32 0) ∧ xs[q * 5 + 2]? = some (.nilIface) ∧ xs[q * 5 + 3]? = some (.int .i32 0) ∧ xs[q * 5 + 4]? = some (.int .i32 0)
theorem RawO.snoc {xs : List Value} {j at_ : Nat} {dI : Value} {sp : Bool} (h : RawO xs j at_ dI sp) (d : Value) (c : Bool) (h1 : j = at_ → d = dI ∧ c = sp) (h2 : j ≠ at_ → (∃ b, d = .iface 83 (.pointer (some ⟨b, 0, none⟩))) ∧ c = false) : RawO (xs ++ [.nilIface, .int .i32 0, d, .int .i32 0, .nilIface, .int .i32 0, .int .i32 0, .int .i32 0, .bool false, .bool c, .bool false]) (j + 1) at_ dI sp := by
  refine ⟨by simp [h.1]; omega, fun q hq => ?_⟩
  by_cases e : q = j
  · subst e
    have l := h.1
    have hc : c = (decide (q = at_) && sp) := by
      by_cases e2 : q = at_
      · simp [e2, (h1 e2).2]
      · simp [e2, (h2 e2).2]
    refine ⟨d, ⟨fun e2 => (h1 e2).1, fun e2 => (h2 e2).1⟩, ?_, ?_, ?_, ?_, ?_, ?_, ?_, ?_, ?_, ?_, ?_⟩ <;> (rw [List.getElem?_append_right (by omega), l]; simp)
    rw [hc]
  · obtain ⟨d', hd, x0, x1, x2, x3, x4, x5, x6, x7, x8, x9, x10⟩ := h.2 q (by omega)
    have l := h.1
    refine ⟨d', hd, ?_, ?_, ?_, ?_, ?_, ?_, ?_, ?_, ?_, ?_, ?_⟩ <;> (rw [List.getElem?_append_left (by omega)]; assumption)
theorem RawA.snoc {xs : List Value} {j at_ : Nat} {dI : Value} (h : RawA xs j at_ dI) (d : Value) (h1 : j = at_ → d = dI) (h2 : j ≠ at_ → ∃ b, d = .iface 83 (.pointer (some ⟨b, 0, none⟩))) : RawA (xs ++ [d, .int .i32 0, .nilIface, .int .i32 0, .int .i32 0]) (j + 1) at_ dI := by
  refine ⟨by simp [h.1]; omega, fun q hq => ?_⟩
  by_cases e : q = j
  · subst e
    have l := h.1
    refine ⟨d, ⟨h1, h2⟩, ?_, ?_, ?_, ?_, ?_⟩ <;> (rw [List.getElem?_append_right (by omega), l]; simp)
  · obtain ⟨d', hd, x0, x1, x2, x3, x4⟩ := h.2 q (by omega)
    have l := h.1
    refine ⟨d', hd, ?_, ?_, ?_, ?_, ?_⟩ <;> (rw [List.getElem?_append_left (by omega)]; assumption)
theorem RawO.it {B : Nat} {w : World} {xs : List Value} {j at_ : Nat} {dI : Value} {sp tb : Bool} (h : RawO xs j at_ dI sp) (hd : IsD dI) (hb : BH B w dI tb) : ItO B w xs j (fun q => decide (q = at_) && sp) (fun q => decide (q = at_) && tb) := ⟨h.1, fun q hq => by
  obtain ⟨d, ⟨h1, h2⟩, hx⟩ := h.2 q hq
  by_cases e : q = at_
  · exact ⟨d, by rw [h1 e]; exact hd, by rw [h1 e]; simpa [e] using hb, hx⟩
  · obtain ⟨b, rfl⟩ := h2 e
    exact ⟨_, ⟨_, _, rfl⟩, by simpa [e] using bhId B b w, hx⟩⟩
theorem RawA.it {B : Nat} {w : World} {xs : List Value} {j at_ : Nat} {dI : Value} {tb : Bool} (h : RawA xs j at_ dI) (hd : IsD dI) (hb : BH B w dI tb) : ItA B w xs j (fun q => decide (q = at_) && tb) := ⟨h.1, fun q hq => by
  obtain ⟨d, ⟨h1, h2⟩, hx⟩ := h.2 q hq
  by_cases e : q = at_
  · exact ⟨d, by rw [h1 e]; exact hd, by rw [h1 e]; simpa [e] using hb, hx⟩
  · obtain ⟨b, rfl⟩ := h2 e
    exact ⟨_, ⟨_, _, rfl⟩, by simpa [e] using bhId B b w, hx⟩⟩
theorem any_one {f : Nat → Bool} {n at_ : Nat} {b : Bool} (h : at_ < n) (h1 : f at_ = b) (h2 : ∀ q, q ≠ at_ → f q = false) : anyB f n = b := by
  cases b
  · exact anyB_no (fun j _ => by
      by_cases e : j = at_
      · rw [e]; exact h1
      · exact h2 j e)
  · exact anyB_yes h h1
def LO (K at_ R T sz : Nat) (Raw : List Value → Nat → Prop) (Wr : World) (s i : Value) (wr : World) : Prop := ∃ (j : Nat) (xs : List Value), j ≤ K ∧ s = .slice (some ⟨R, 0, none⟩) j K ∧ i = .int .i64 j ∧ Hid (wr.ownsRow R T sz s j xs) ∧ Hid (Raw xs j) ∧ Hid (Below R Wr wr) ∧ R + 1 ≤ wr.heap.size
theorem sizeEnd {r : Nat} {wr : World} (v0 v1 : Value) (o : Obj) : (((wr.setCell ⟨r, 0, none⟩ v0).setCell ⟨r, 1, none⟩ v1).alloc o).heap.size = wr.heap.size + 1 := by simp [World.setCell]
theorem belEnd {B r : Nat} {w wr : World} (h : Below B w wr) (hr : B ≤ r) (hs : B ≤ wr.heap.size) (v0 v1 : Value) (o : Obj) : Below B w (((wr.setCell ⟨r, 0, none⟩ v0).setCell ⟨r, 1, none⟩ v1).alloc o) := ((h.setCell (by simpa using hr) _).setCell (by simpa using hr) _).alloc (by simpa [World.setCell] using hs) _
theorem objL {B0 R r K at_ : Nat} {w3 wr : World} {xs : List Value} {dI : Value} {sp tb : Bool} (v0 v1 u1 u2 : Value) (hr : r < R) (hr3 : w3.heap.size ≤ r) (hB0 : B0 ≤ w3.heap.size) (hat : at_ < K) (hK : K ≤ 8) (hd : IsD dI) (hb : BH B0 w3 dI tb) (hW : wr.ownsRow R 82 11 (.slice (some ⟨R, 0, none⟩) K K) K xs) (hx : RawO xs K at_ dI sp) (hbl : Below w3.heap.size w3 wr) (hl : R + 1 ≤ wr.heap.size) :
    BH B0 (((wr.setCell ⟨r, 0, none⟩ v0).setCell ⟨r, 1, none⟩ v1).alloc (.cells #[.slice (some ⟨R, 0, none⟩) K K, u1, u2] 88)) (.iface 86 (.pointer (some ⟨wr.heap.size, 0, none⟩))) (sp || tb) := by
  have e : anyB (fun q => (decide (q = at_) && sp) || (decide (q = at_) && tb)) K = (sp || tb) := any_one hat (by simp) (fun q hq => by simp [hq])
  rw [← e]
  exact bhObj B0 wr.heap.size R K K xs _ _ R _ (by omega) (by omega) (by rw [(endAt v0 v1 _ 88).cell]; rfl) ((Ex.end hr v0 v1 _).own (Nat.le_refl _) hW) (hx.it hd (hb.ex (Ex.of (belEnd hbl hr3 hbl.size v0 v1 _) _))) (by omega)
theorem arrL {B0 R r K at_ : Nat} {w3 wr : World} {xs : List Value} {dI : Value} {tb : Bool} (v0 v1 u1 u2 u3 : Value) (hr : r < R) (hr3 : w3.heap.size ≤ r) (hB0 : B0 ≤ w3.heap.size) (hat : at_ < K) (hK : K ≤ 8) (hd : IsD dI) (hb : BH B0 w3 dI tb) (hW : wr.ownsRow R 91 5 (.slice (some ⟨R, 0, none⟩) K K) K xs) (hx : RawA xs K at_ dI) (hbl : Below w3.heap.size w3 wr) (hl : R + 1 ≤ wr.heap.size) :
    BH B0 (((wr.setCell ⟨r, 0, none⟩ v0).setCell ⟨r, 1, none⟩ v1).alloc (.cells #[.slice (some ⟨R, 0, none⟩) K K, u1, u2, u3] 94)) (.iface 92 (.pointer (some ⟨wr.heap.size, 0, none⟩))) tb := by
  have e : anyB (fun q => decide (q = at_) && tb) K = tb := any_one hat (by simp) (fun q hq => by simp [hq])
  rw [← e]
  exact bhArr B0 wr.heap.size R K K xs _ R _ (by omega) (by omega) (by rw [(endAt v0 v1 _ 94).cell]; rfl) ((Ex.end hr v0 v1 _).own (Nat.le_refl _) hW) (hx.it hd (hb.ex (Ex.of (belEnd hbl hr3 hbl.size v0 v1 _) _))) (by omega)
set_option maxRecDepth 100000 in
set_option maxHeartbeats 4000000 in
theorem walk (a0 : Option Addr) (len0 cap0 : Nat) (z0 : List Int) (a1 : Int) (a2 : Bool) (a3 : Bool) (w : World) (w0 : IsRow .u8 w a0 len0 cap0 z0) (w1 : (Lit.int .u8 a1).wf = true) :
    Calls Try.prog 6 #[.slice a0 len0 cap0, .int .u8 a1, .bool a2, .bool a3] w fun e w' => e = .returned (.bool true) ∧ Below w.heap.size w w' := by
  obtain ⟨l0, l0', hwf⟩ := len_ints w0
  by_cases c : 65536 < len0
  · exact early a0 len0 cap0 a1 a2 a3 w l0 c
  have b0 : len0 ≤ 65536 := by omega
  have hz : ∀ i, 0 ≤ z0.getD i 0 ∧ z0.getD i 0 ≤ 255 := fun i => by
    rcases hwf i with h | h
    · exact wf_u8 h
    · simp [List.getD, List.getElem?_eq_none h]
  have H1 := Lib.hid (bytes_yes a0 len0 cap0 a1 a2 a3 w (by omega))
  have H2 := Lib.hid (cpU8_any a0 len0 cap0 z0 w w0 (by omega))
  obtain ⟨y0, y1⟩ := wf_u8 w1
  clear w0 w1 l0 l0' hwf c
  go_enter Try.func6, Try.ntmps6
  go_wp2_with fail
  refine H1.out.mono ?_
  rintro e w' ⟨rfl, rfl⟩
  go_wp2_with fail
  refine H2.out.mono ?_
  rintro e w2 ⟨a', cap', rfl, hr, hb⟩
  have HB := Lib.hid hb
  have HO := Lib.hid (show Ops w2.heap.size (w2.alloc (.cells #[.int .i64 0] 3)) a' len0 z0 from fun hp => by
    obtain ⟨B, off, e, hc⟩ := hr hp
    exact ⟨B, off, e, by have := World.block_lt_of_cell? _ _ (hc 0 hp); simp at this; omega, fun i hi => kAlloc (hc i hi)⟩)
  have HC := Lib.hid (bb w2.heap.size len0 cap' a' z0 b0 hz len0 0 (w2.alloc (.cells #[.int .i64 0] 3)) (by omega) (by omega) HO.out ⟨by simp [go_sem], by simp [go_sem]⟩)
  clear hr hb H1 H2 HO
  go_wp2_with fail
  refine HC.out.mono ?_
  rintro e w3 ⟨d, tot, tb, p3, rfl, ⟨ty, bq, rfl⟩, hbh, hpos, hp3, hp4, hx⟩
  have HB3 := Lib.hid hbh
  have hs3 := hx.size
  have HX3 := Lib.hid (show Below w.heap.size w w3 from ((HB.out.alloc HB.out.size _).trans (hx.below HB.out.size (by simp; exact Nat.le_succ_of_le HB.out.size))))
  clear hbh hpos hp3 hp4 hx HC HB
  obtain ⟨b, rfl⟩ : ∃ b : Nat, a1 = b := ⟨a1.toNat, by omega⟩
  go_wp2_with fail
  refine (bh22 HB3.out _ ((Ex.refl _ _).alloc _)).mono ?_
  rintro e w4 ⟨rfl, hb4⟩
  have hb4s := hb4.size
  have B34 := Lib.hid (show Below w3.heap.size w3 w4 from ((Below.refl _ _).alloc (Nat.le_refl _) _).trans (hb4.mono (by simp)))
  have i40 : w4.cell? ⟨w3.heap.size, 0, none⟩ = some (.iface ty (.pointer (some ⟨bq, 0, none⟩))) := kept hb4 (by simp [go_sem])
  have i41 : w4.cell? ⟨w3.heap.size, 1, none⟩ = some (.int .i32 0) := kept hb4 (by simp [go_sem])
  have HX4 := Lib.hid (show Below w.heap.size w w4 from (HX3.out.alloc HX3.out.size _).trans (hb4.mono (by have := HX3.out.size; simp; omega)))
  clear hb4

  obtain ⟨i1, hi1, hy0, hy1, hy2⟩ := info_parts info91
  obtain ⟨i2, hi2, hv0, hv1, hv2⟩ := info_parts info82
  have I1 := Lib.hid hi1
  have I10 := Lib.hid hy0
  have I11 := Lib.hid hy1
  have I12 := Lib.hid hy2
  have I2 := Lib.hid hi2
  have I20 := Lib.hid hv0
  have I21 := Lib.hid hv1
  have I22 := Lib.hid hv2
  clear hi1 hy0 hy1 hy2 hi2 hv0 hv1 hv2
  obtain ⟨k, hk, hk7⟩ : ∃ k : Nat, (b : Int) % 8 = k ∧ k ≤ 7 := ⟨b % 8, by omega, by omega⟩
  obtain ⟨at_, hat, hatk⟩ : ∃ at_ : Nat, (b : Int) / 8 % ((k : Int) + 1) = at_ ∧ at_ ≤ k := ⟨b / 8 % (k + 1), by simp, by have := Nat.mod_lt (b / 8) (show k + 1 > 0 by omega); omega⟩
  obtain ⟨W5, hW5⟩ : ∃ W, W = w4.alloc (.cells #[.nilIface, .int .i32 0] 75) := ⟨_, rfl⟩
  have z5 : W5.heap.size = w4.heap.size + 1 := by rw [hW5]; simp
  have z4 : w3.heap.size + 1 ≤ w4.heap.size := by have := hb4s; simpa using this
  have n0 : W5.cell? ⟨w3.heap.size, 0, none⟩ = some (.iface ty (.pointer (some ⟨bq, 0, none⟩))) := by rw [hW5]; exact kAlloc i40
  have n1 : W5.cell? ⟨w3.heap.size, 1, none⟩ = some (.int .i32 0) := by rw [hW5]; exact kAlloc i41
  have o0 : W5.cell? ⟨w4.heap.size, 0, none⟩ = some .nilIface := by rw [hW5]; simp [go_sem]
  have o1 : W5.cell? ⟨w4.heap.size, 1, none⟩ = some (.int .i32 0) := by rw [hW5]; simp [go_sem]
  have o2 : W5.frozen? ⟨w4.heap.size, 0, none⟩ = false := by rw [hW5]; simp [go_sem]
  have o3 : W5.frozen? ⟨w4.heap.size, 1, none⟩ = false := by rw [hW5]; simp [go_sem]
  have B35 := Lib.hid (show Below w3.heap.size w3 W5 from by rw [hW5]; exact B34.out.alloc (by omega) _)
  have HX5 := Lib.hid (show Below w.heap.size w W5 from by rw [hW5]; exact HX4.out.alloc HX4.out.size _)
  have h3oc : w3.heap.size ≤ w4.heap.size := by omega
  have hB0 : (w2.alloc (.cells #[.int .i64 0] 3)).heap.size ≤ w3.heap.size := hs3
  have HW5 := Lib.hid hW5
  clear i40 i41 hW5 hb4s hs3
  cases a2
  · go_wp2_with (with_reducible refine wpList_make_own _ (o := ⟨some 81, _, _, _, _, _⟩) rfl _ _ 89 rfl (w4.heap.size + 1) 91 i1 _ 5 Try.underlying89 I1.out I10.out I11.out .i64 .i64 _ (k + 1) rfl rfl ?e1 ?e2 ?e3 ?e4 ?_)

    case e1 => simp
    case e2 => rw [I12.out]; omega
    case e3 => unfold maxLen; omega
    case e4 => simp
    intro w1 hown hgr
    rw [← HW5.out] at hgr
    go_wp2_with fail
    go_loopw [18, 19] (fun s i wr => LO (k + 1) at_ (w4.heap.size + 1) 91 5 (fun xs j => RawA xs j at_ (.iface ty (.pointer (some ⟨bq, 0, none⟩)))) W5 s i wr) (fun s i _ => k + 1 - (intOf i).toNat)
    case atStart => exact ⟨0, [], by omega, rfl, rfl, Lib.hid hown, Lib.hid ⟨rfl, fun q hq => absurd hq (by omega)⟩, Lib.hid ((Below.refl (w4.heap.size + 1) W5).grown hgr (by omega) (fun q hq => by cases hq)), by have := (World.ownsRow.lt hown (w4.heap.size + 1) rfl).2; omega⟩
    case round =>
      obtain ⟨j, xs, hj, rfl, rfl, HW, HX, HL, hL⟩ := hrel
      clear hown hgr
      by_cases hjk : j ≤ k
      · by_cases hja : j = at_
        · subst hja
          have m0 : wr.cell? ⟨w3.heap.size, 0, none⟩ = some (.iface ty (.pointer (some ⟨bq, 0, none⟩))) := (HL.out.cell (p := ⟨w3.heap.size, 0, none⟩) (by simp; omega)).trans n0
          have m1 : wr.cell? ⟨w3.heap.size, 1, none⟩ = some (.int .i32 0) := (HL.out.cell (p := ⟨w3.heap.size, 1, none⟩) (by simp; omega)).trans n1
          have lic : w3.heap.size < wr.heap.size := by omega
          have E2 := Lib.hid (show ∀ (q : Nat) (u : Value), ([.iface ty (.pointer (some ⟨bq, 0, none⟩)), .int .i32 0, .nilIface, .int .i32 0, .int .i32 0] : List Value)[q]? = some u → (wr.alloc (.cells #[.iface ty (.pointer (some ⟨bq, 0, none⟩)), .int .i32 0, .nilIface, .int .i32 0, .int .i32 0] 91)).cell? ((⟨wr.heap.size, 0, none⟩ : Addr).add q) = some u from by have hh := heap_alloc_new wr (.cells #[.iface ty (.pointer (some ⟨bq, 0, none⟩)), .int .i32 0, .nilIface, .int .i32 0, .int .i32 0] 91);  exact World.news_of_block (cs := #[.iface ty (.pointer (some ⟨bq, 0, none⟩)), .int .i32 0, .nilIface, .int .i32 0, .int .i32 0]) (t := 91) (fr := (0, 0)) hh)
          have E3 := Lib.hid (show ∀ u ∈ ([.iface ty (.pointer (some ⟨bq, 0, none⟩)), .int .i32 0, .nilIface, .int .i32 0, .int .i32 0] : List Value), u.oneCell' = true from by simp [Value.oneCell'])
          have E4 := Lib.hid (show j + 1 ≤ k + 1 by omega)
          go_wp2_with (with_reducible refine wpList_append_fits _ (o := ⟨some 94, _, _, _, _, _⟩) rfl _ _ 89 rfl (w4.heap.size + 1) 91 i1 5 Try.underlying89 I1.out I11.out (w4.heap.size + 1) j (k + 1) xs rfl (HW.out.alloc _) ⟨wr.heap.size, 0, none⟩ 1 1 [.iface ty (.pointer (some ⟨bq, 0, none⟩)), .int .i32 0, .nilIface, .int .i32 0, .int .i32 0] rfl rfl E2.out E3.out E4.out ?_)
          intro w6 hown6 hgr6
          have HO6 := Lib.hid hown6
          have HG6 := Lib.hid hgr6
          clear hown6 hgr6
          go_wp2_with fail
          go_roundw
          case measure => simp [intOf]; omega
          case rel =>
            have hgr := HG6.out
            have hsz := hgr.size
            simp at hsz
            exact ⟨j + 1, _, by omega, rfl, by go_num, HO6, Lib.hid (HX.out.snoc _ (fun _ => rfl) (fun h => absurd rfl h)), Lib.hid ((HL.out.alloc (by omega) _).grown hgr (by simp; omega) (fun q hq => by simp only [Option.some.injEq] at hq; omega)), by omega⟩
        · have ne1 : ((j : Int) == (at_ : Int)) = false := by simp; omega
          have ne2 : (j == at_) = false := by simp; omega
          have E2 := Lib.hid (show ∀ (q : Nat) (u : Value), ([.iface 83 (.pointer (some ⟨wr.heap.size, 0, none⟩)), .int .i32 0, .nilIface, .int .i32 0, .int .i32 0] : List Value)[q]? = some u → ((wr.alloc (.cells #[.int .u32 0, .int .u32 0] 85)).alloc (.cells #[.iface 83 (.pointer (some ⟨wr.heap.size, 0, none⟩)), .int .i32 0, .nilIface, .int .i32 0, .int .i32 0] 91)).cell? ((⟨wr.heap.size + 1, 0, none⟩ : Addr).add q) = some u from by have hh := heap_alloc_new (wr.alloc (.cells #[.int .u32 0, .int .u32 0] 85)) (.cells #[.iface 83 (.pointer (some ⟨wr.heap.size, 0, none⟩)), .int .i32 0, .nilIface, .int .i32 0, .int .i32 0] 91); rw [show (wr.alloc (.cells #[.int .u32 0, .int .u32 0] 85)).heap.size = wr.heap.size + 1 from by simp] at hh; exact World.news_of_block (cs := #[.iface 83 (.pointer (some ⟨wr.heap.size, 0, none⟩)), .int .i32 0, .nilIface, .int .i32 0, .int .i32 0]) (t := 91) (fr := (0, 0)) hh)
          have E3 := Lib.hid (show ∀ u ∈ ([.iface 83 (.pointer (some ⟨wr.heap.size, 0, none⟩)), .int .i32 0, .nilIface, .int .i32 0, .int .i32 0] : List Value), u.oneCell' = true from by simp [Value.oneCell'])
          have E4 := Lib.hid (show j + 1 ≤ k + 1 by omega)
          go_wp2_with (with_reducible refine wpList_append_fits _ (o := ⟨some 102, _, _, _, _, _⟩) rfl _ _ 89 rfl (w4.heap.size + 1) 91 i1 5 Try.underlying89 I1.out I11.out (w4.heap.size + 1) j (k + 1) xs rfl ((HW.out.alloc _).alloc _) ⟨wr.heap.size + 1, 0, none⟩ 1 1 [.iface 83 (.pointer (some ⟨wr.heap.size, 0, none⟩)), .int .i32 0, .nilIface, .int .i32 0, .int .i32 0] rfl rfl E2.out E3.out E4.out ?_)
          intro w6 hown6 hgr6
          have HO6 := Lib.hid hown6
          have HG6 := Lib.hid hgr6
          clear hown6 hgr6
          go_wp2_with fail
          go_roundw
          case measure => simp [intOf]; omega
          case rel =>
            have hgr := HG6.out
            have hsz := hgr.size
            simp at hsz
            exact ⟨j + 1, _, by omega, rfl, by go_num, HO6, Lib.hid (HX.out.snoc _ (fun h => absurd h hja) (fun _ => ⟨_, rfl⟩)), Lib.hid (((HL.out.alloc (by omega) _).alloc (by simp; omega) _).grown hgr (by simp; omega) (fun q hq => by simp only [Option.some.injEq] at hq; omega)), by omega⟩
      · obtain rfl : j = k + 1 := by omega
        have p0 : wr.cell? ⟨w4.heap.size, 0, none⟩ = some .nilIface := (HL.out.cell (p := ⟨w4.heap.size, 0, none⟩) (by simp)).trans o0
        have p1 : wr.cell? ⟨w4.heap.size, 1, none⟩ = some (.int .i32 0) := (HL.out.cell (p := ⟨w4.heap.size, 1, none⟩) (by simp)).trans o1
        have q0 : wr.frozen? ⟨w4.heap.size, 0, none⟩ = false := (HL.out.frozen (p := ⟨w4.heap.size, 0, none⟩) (by simp)).trans o2
        have q1 : wr.frozen? ⟨w4.heap.size, 1, none⟩ = false := (HL.out.frozen (p := ⟨w4.heap.size, 1, none⟩) (by simp)).trans o3
        have loc : w4.heap.size < wr.heap.size := by omega
        have BW := Lib.hid (show Below w3.heap.size w3 wr from B35.out.trans (HL.out.mono (by omega)))
        have BWW := Lib.hid (show Below w.heap.size w wr from HX5.out.trans (HL.out.mono (by have := HX4.out.size; omega)))
        have hww := BWW.out.size
        have hs4 := HX4.out.size
        have HE := Lib.hid (fun v0 v1 u1 u2 u3 => arrL (at_ := at_) v0 v1 u1 u2 u3 (show w4.heap.size < (w4.heap.size + 1) by omega) h3oc hB0 (by omega) (by omega) ⟨_, _, rfl⟩ HB3.out HW.out HX.out BW.out hL)
        go_wp2_with fail
        refine (bh22 (HE.out _ _ _ _ _ ) _ (Ex.refl _ _)).mono ?_
        rintro e w7 ⟨rfl, hb7⟩
        have HB7 := Lib.hid (show Below w.heap.size w w7 from (belEnd BWW.out (by omega) hww _ _ _).trans (hb7.mono (by rw [sizeEnd]; omega)))
        clear hb7 HE
        go_wp2_with fail
        go_ret
        exact ⟨rfl, HB7.out⟩
  · cases a3
    · go_wp2_with (with_reducible refine wpList_make_own _ (o := ⟨some 51, _, _, _, _, _⟩) rfl _ _ 80 rfl (w4.heap.size + 1) 82 i2 _ 11 Try.underlying80 I2.out I20.out I21.out .i64 .i64 _ (k + 1) rfl rfl ?e1 ?e2 ?e3 ?e4 ?_)

      case e1 => simp
      case e2 => rw [I22.out]; omega
      case e3 => unfold maxLen; omega
      case e4 => simp
      intro w1 hown hgr
      rw [← HW5.out] at hgr
      go_wp2_with fail
      go_loopw [16, 17] (fun s i wr => LO (k + 1) at_ (w4.heap.size + 1) 82 11 (fun xs j => RawO xs j at_ (.iface ty (.pointer (some ⟨bq, 0, none⟩))) false) W5 s i wr) (fun s i _ => k + 1 - (intOf i).toNat)
      case atStart => exact ⟨0, [], by omega, rfl, rfl, Lib.hid hown, Lib.hid ⟨rfl, fun q hq => absurd hq (by omega)⟩, Lib.hid ((Below.refl (w4.heap.size + 1) W5).grown hgr (by omega) (fun q hq => by cases hq)), by have := (World.ownsRow.lt hown (w4.heap.size + 1) rfl).2; omega⟩
      case round =>
        obtain ⟨j, xs, hj, rfl, rfl, HW, HX, HL, hL⟩ := hrel
        clear hown hgr
        by_cases hjk : j ≤ k
        · by_cases hja : j = at_
          · subst hja
            have m0 : wr.cell? ⟨w3.heap.size, 0, none⟩ = some (.iface ty (.pointer (some ⟨bq, 0, none⟩))) := (HL.out.cell (p := ⟨w3.heap.size, 0, none⟩) (by simp; omega)).trans n0
            have m1 : wr.cell? ⟨w3.heap.size, 1, none⟩ = some (.int .i32 0) := (HL.out.cell (p := ⟨w3.heap.size, 1, none⟩) (by simp; omega)).trans n1
            have lic : w3.heap.size < wr.heap.size := by omega
            have E2 := Lib.hid (show ∀ (q : Nat) (u : Value), ([.nilIface, .int .i32 0, .iface ty (.pointer (some ⟨bq, 0, none⟩)), .int .i32 0, .nilIface, .int .i32 0, .int .i32 0, .int .i32 0, .bool false, .bool false, .bool false] : List Value)[q]? = some u → (wr.alloc (.cells #[.nilIface, .int .i32 0, .iface ty (.pointer (some ⟨bq, 0, none⟩)), .int .i32 0, .nilIface, .int .i32 0, .int .i32 0, .int .i32 0, .bool false, .bool false, .bool false] 82)).cell? ((⟨wr.heap.size, 0, none⟩ : Addr).add q) = some u from by have hh := heap_alloc_new wr (.cells #[.nilIface, .int .i32 0, .iface ty (.pointer (some ⟨bq, 0, none⟩)), .int .i32 0, .nilIface, .int .i32 0, .int .i32 0, .int .i32 0, .bool false, .bool false, .bool false] 82);  exact World.news_of_block (cs := #[.nilIface, .int .i32 0, .iface ty (.pointer (some ⟨bq, 0, none⟩)), .int .i32 0, .nilIface, .int .i32 0, .int .i32 0, .int .i32 0, .bool false, .bool false, .bool false]) (t := 82) (fr := (0, 0)) hh)
            have E3 := Lib.hid (show ∀ u ∈ ([.nilIface, .int .i32 0, .iface ty (.pointer (some ⟨bq, 0, none⟩)), .int .i32 0, .nilIface, .int .i32 0, .int .i32 0, .int .i32 0, .bool false, .bool false, .bool false] : List Value), u.oneCell' = true from by simp [Value.oneCell'])
            have E4 := Lib.hid (show j + 1 ≤ k + 1 by omega)
            go_wp2_with (with_reducible refine wpList_append_fits _ (o := ⟨some 65, _, _, _, _, _⟩) rfl _ _ 80 rfl (w4.heap.size + 1) 82 i2 11 Try.underlying80 I2.out I21.out (w4.heap.size + 1) j (k + 1) xs rfl (HW.out.alloc _) ⟨wr.heap.size, 0, none⟩ 1 1 [.nilIface, .int .i32 0, .iface ty (.pointer (some ⟨bq, 0, none⟩)), .int .i32 0, .nilIface, .int .i32 0, .int .i32 0, .int .i32 0, .bool false, .bool false, .bool false] rfl rfl E2.out E3.out E4.out ?_)
            intro w6 hown6 hgr6
            have HO6 := Lib.hid hown6
            have HG6 := Lib.hid hgr6
            clear hown6 hgr6
            go_wp2_with fail
            go_roundw
            case measure => simp [intOf]; omega
            case rel =>
              have hgr := HG6.out
              have hsz := hgr.size
              simp at hsz
              exact ⟨j + 1, _, by omega, rfl, by go_num, HO6, Lib.hid (HX.out.snoc _ _ (fun _ => ⟨rfl, rfl⟩) (fun h => absurd rfl h)), Lib.hid ((HL.out.alloc (by omega) _).grown hgr (by simp; omega) (fun q hq => by simp only [Option.some.injEq] at hq; omega)), by omega⟩
          · have ne1 : ((j : Int) == (at_ : Int)) = false := by simp; omega
            have ne2 : (j == at_) = false := by simp; omega
            have E2 := Lib.hid (show ∀ (q : Nat) (u : Value), ([.nilIface, .int .i32 0, .iface 83 (.pointer (some ⟨wr.heap.size, 0, none⟩)), .int .i32 0, .nilIface, .int .i32 0, .int .i32 0, .int .i32 0, .bool false, .bool false, .bool false] : List Value)[q]? = some u → ((wr.alloc (.cells #[.int .u32 0, .int .u32 0] 85)).alloc (.cells #[.nilIface, .int .i32 0, .iface 83 (.pointer (some ⟨wr.heap.size, 0, none⟩)), .int .i32 0, .nilIface, .int .i32 0, .int .i32 0, .int .i32 0, .bool false, .bool false, .bool false] 82)).cell? ((⟨wr.heap.size + 1, 0, none⟩ : Addr).add q) = some u from by have hh := heap_alloc_new (wr.alloc (.cells #[.int .u32 0, .int .u32 0] 85)) (.cells #[.nilIface, .int .i32 0, .iface 83 (.pointer (some ⟨wr.heap.size, 0, none⟩)), .int .i32 0, .nilIface, .int .i32 0, .int .i32 0, .int .i32 0, .bool false, .bool false, .bool false] 82); rw [show (wr.alloc (.cells #[.int .u32 0, .int .u32 0] 85)).heap.size = wr.heap.size + 1 from by simp] at hh; exact World.news_of_block (cs := #[.nilIface, .int .i32 0, .iface 83 (.pointer (some ⟨wr.heap.size, 0, none⟩)), .int .i32 0, .nilIface, .int .i32 0, .int .i32 0, .int .i32 0, .bool false, .bool false, .bool false]) (t := 82) (fr := (0, 0)) hh)
            have E3 := Lib.hid (show ∀ u ∈ ([.nilIface, .int .i32 0, .iface 83 (.pointer (some ⟨wr.heap.size, 0, none⟩)), .int .i32 0, .nilIface, .int .i32 0, .int .i32 0, .int .i32 0, .bool false, .bool false, .bool false] : List Value), u.oneCell' = true from by simp [Value.oneCell'])
            have E4 := Lib.hid (show j + 1 ≤ k + 1 by omega)
            go_wp2_with (with_reducible refine wpList_append_fits _ (o := ⟨some 73, _, _, _, _, _⟩) rfl _ _ 80 rfl (w4.heap.size + 1) 82 i2 11 Try.underlying80 I2.out I21.out (w4.heap.size + 1) j (k + 1) xs rfl ((HW.out.alloc _).alloc _) ⟨wr.heap.size + 1, 0, none⟩ 1 1 [.nilIface, .int .i32 0, .iface 83 (.pointer (some ⟨wr.heap.size, 0, none⟩)), .int .i32 0, .nilIface, .int .i32 0, .int .i32 0, .int .i32 0, .bool false, .bool false, .bool false] rfl rfl E2.out E3.out E4.out ?_)
            intro w6 hown6 hgr6
            have HO6 := Lib.hid hown6
            have HG6 := Lib.hid hgr6
            clear hown6 hgr6
            go_wp2_with fail
            go_roundw
            case measure => simp [intOf]; omega
            case rel =>
              have hgr := HG6.out
              have hsz := hgr.size
              simp at hsz
              exact ⟨j + 1, _, by omega, rfl, by go_num, HO6, Lib.hid (HX.out.snoc _ _ (fun h => absurd h hja) (fun _ => ⟨⟨_, rfl⟩, rfl⟩)), Lib.hid (((HL.out.alloc (by omega) _).alloc (by simp; omega) _).grown hgr (by simp; omega) (fun q hq => by simp only [Option.some.injEq] at hq; omega)), by omega⟩
        · obtain rfl : j = k + 1 := by omega
          have p0 : wr.cell? ⟨w4.heap.size, 0, none⟩ = some .nilIface := (HL.out.cell (p := ⟨w4.heap.size, 0, none⟩) (by simp)).trans o0
          have p1 : wr.cell? ⟨w4.heap.size, 1, none⟩ = some (.int .i32 0) := (HL.out.cell (p := ⟨w4.heap.size, 1, none⟩) (by simp)).trans o1
          have q0 : wr.frozen? ⟨w4.heap.size, 0, none⟩ = false := (HL.out.frozen (p := ⟨w4.heap.size, 0, none⟩) (by simp)).trans o2
          have q1 : wr.frozen? ⟨w4.heap.size, 1, none⟩ = false := (HL.out.frozen (p := ⟨w4.heap.size, 1, none⟩) (by simp)).trans o3
          have loc : w4.heap.size < wr.heap.size := by omega
          have BW := Lib.hid (show Below w3.heap.size w3 wr from B35.out.trans (HL.out.mono (by omega)))
          have BWW := Lib.hid (show Below w.heap.size w wr from HX5.out.trans (HL.out.mono (by have := HX4.out.size; omega)))
          have hww := BWW.out.size
          have hs4 := HX4.out.size
          have HE := Lib.hid (fun v0 v1 u1 u2 => objL (at_ := at_) v0 v1 u1 u2 (show w4.heap.size < (w4.heap.size + 1) by omega) h3oc hB0 (by omega) (by omega) ⟨_, _, rfl⟩ HB3.out HW.out HX.out BW.out hL)
          go_wp2_with fail
          refine (bh22 (HE.out _ _ _ _ ) _ (Ex.refl _ _)).mono ?_
          rintro e w7 ⟨rfl, hb7⟩
          have HB7 := Lib.hid (show Below w.heap.size w w7 from (belEnd BWW.out (by omega) hww _ _ _).trans (hb7.mono (by rw [sizeEnd]; omega)))
          clear hb7 HE
          go_wp2_with fail
          go_ret
          exact ⟨rfl, HB7.out⟩
    · go_wp2_with (with_reducible refine wpList_make_own _ (o := ⟨some 51, _, _, _, _, _⟩) rfl _ _ 80 rfl (w4.heap.size + 1) 82 i2 _ 11 Try.underlying80 I2.out I20.out I21.out .i64 .i64 _ (k + 1) rfl rfl ?e1 ?e2 ?e3 ?e4 ?_)

      case e1 => simp
      case e2 => rw [I22.out]; omega
      case e3 => unfold maxLen; omega
      case e4 => simp
      intro w1 hown hgr
      rw [← HW5.out] at hgr
      go_wp2_with fail
      go_loopw [16, 17] (fun s i wr => LO (k + 1) at_ (w4.heap.size + 1) 82 11 (fun xs j => RawO xs j at_ (.iface ty (.pointer (some ⟨bq, 0, none⟩))) true) W5 s i wr) (fun s i _ => k + 1 - (intOf i).toNat)
      case atStart => exact ⟨0, [], by omega, rfl, rfl, Lib.hid hown, Lib.hid ⟨rfl, fun q hq => absurd hq (by omega)⟩, Lib.hid ((Below.refl (w4.heap.size + 1) W5).grown hgr (by omega) (fun q hq => by cases hq)), by have := (World.ownsRow.lt hown (w4.heap.size + 1) rfl).2; omega⟩
      case round =>
        obtain ⟨j, xs, hj, rfl, rfl, HW, HX, HL, hL⟩ := hrel
        clear hown hgr
        by_cases hjk : j ≤ k
        · by_cases hja : j = at_
          · subst hja
            have m0 : wr.cell? ⟨w3.heap.size, 0, none⟩ = some (.iface ty (.pointer (some ⟨bq, 0, none⟩))) := (HL.out.cell (p := ⟨w3.heap.size, 0, none⟩) (by simp; omega)).trans n0
            have m1 : wr.cell? ⟨w3.heap.size, 1, none⟩ = some (.int .i32 0) := (HL.out.cell (p := ⟨w3.heap.size, 1, none⟩) (by simp; omega)).trans n1
            have lic : w3.heap.size < wr.heap.size := by omega
            have E2 := Lib.hid (show ∀ (q : Nat) (u : Value), ([.nilIface, .int .i32 0, .iface ty (.pointer (some ⟨bq, 0, none⟩)), .int .i32 0, .nilIface, .int .i32 0, .int .i32 0, .int .i32 0, .bool false, .bool true, .bool false] : List Value)[q]? = some u → (wr.alloc (.cells #[.nilIface, .int .i32 0, .iface ty (.pointer (some ⟨bq, 0, none⟩)), .int .i32 0, .nilIface, .int .i32 0, .int .i32 0, .int .i32 0, .bool false, .bool true, .bool false] 82)).cell? ((⟨wr.heap.size, 0, none⟩ : Addr).add q) = some u from by have hh := heap_alloc_new wr (.cells #[.nilIface, .int .i32 0, .iface ty (.pointer (some ⟨bq, 0, none⟩)), .int .i32 0, .nilIface, .int .i32 0, .int .i32 0, .int .i32 0, .bool false, .bool true, .bool false] 82);  exact World.news_of_block (cs := #[.nilIface, .int .i32 0, .iface ty (.pointer (some ⟨bq, 0, none⟩)), .int .i32 0, .nilIface, .int .i32 0, .int .i32 0, .int .i32 0, .bool false, .bool true, .bool false]) (t := 82) (fr := (0, 0)) hh)
            have E3 := Lib.hid (show ∀ u ∈ ([.nilIface, .int .i32 0, .iface ty (.pointer (some ⟨bq, 0, none⟩)), .int .i32 0, .nilIface, .int .i32 0, .int .i32 0, .int .i32 0, .bool false, .bool true, .bool false] : List Value), u.oneCell' = true from by simp [Value.oneCell'])
            have E4 := Lib.hid (show j + 1 ≤ k + 1 by omega)
            go_wp2_with (with_reducible refine wpList_append_fits _ (o := ⟨some 65, _, _, _, _, _⟩) rfl _ _ 80 rfl (w4.heap.size + 1) 82 i2 11 Try.underlying80 I2.out I21.out (w4.heap.size + 1) j (k + 1) xs rfl (HW.out.alloc _) ⟨wr.heap.size, 0, none⟩ 1 1 [.nilIface, .int .i32 0, .iface ty (.pointer (some ⟨bq, 0, none⟩)), .int .i32 0, .nilIface, .int .i32 0, .int .i32 0, .int .i32 0, .bool false, .bool true, .bool false] rfl rfl E2.out E3.out E4.out ?_)
            intro w6 hown6 hgr6
            have HO6 := Lib.hid hown6
            have HG6 := Lib.hid hgr6
            clear hown6 hgr6
            go_wp2_with fail
            go_roundw
            case measure => simp [intOf]; omega
            case rel =>
              have hgr := HG6.out
              have hsz := hgr.size
              simp at hsz
              exact ⟨j + 1, _, by omega, rfl, by go_num, HO6, Lib.hid (HX.out.snoc _ _ (fun _ => ⟨rfl, rfl⟩) (fun h => absurd rfl h)), Lib.hid ((HL.out.alloc (by omega) _).grown hgr (by simp; omega) (fun q hq => by simp only [Option.some.injEq] at hq; omega)), by omega⟩
          · have ne1 : ((j : Int) == (at_ : Int)) = false := by simp; omega
            have ne2 : (j == at_) = false := by simp; omega
            have E2 := Lib.hid (show ∀ (q : Nat) (u : Value), ([.nilIface, .int .i32 0, .iface 83 (.pointer (some ⟨wr.heap.size, 0, none⟩)), .int .i32 0, .nilIface, .int .i32 0, .int .i32 0, .int .i32 0, .bool false, .bool false, .bool false] : List Value)[q]? = some u → ((wr.alloc (.cells #[.int .u32 0, .int .u32 0] 85)).alloc (.cells #[.nilIface, .int .i32 0, .iface 83 (.pointer (some ⟨wr.heap.size, 0, none⟩)), .int .i32 0, .nilIface, .int .i32 0, .int .i32 0, .int .i32 0, .bool false, .bool false, .bool false] 82)).cell? ((⟨wr.heap.size + 1, 0, none⟩ : Addr).add q) = some u from by have hh := heap_alloc_new (wr.alloc (.cells #[.int .u32 0, .int .u32 0] 85)) (.cells #[.nilIface, .int .i32 0, .iface 83 (.pointer (some ⟨wr.heap.size, 0, none⟩)), .int .i32 0, .nilIface, .int .i32 0, .int .i32 0, .int .i32 0, .bool false, .bool false, .bool false] 82); rw [show (wr.alloc (.cells #[.int .u32 0, .int .u32 0] 85)).heap.size = wr.heap.size + 1 from by simp] at hh; exact World.news_of_block (cs := #[.nilIface, .int .i32 0, .iface 83 (.pointer (some ⟨wr.heap.size, 0, none⟩)), .int .i32 0, .nilIface, .int .i32 0, .int .i32 0, .int .i32 0, .bool false, .bool false, .bool false]) (t := 82) (fr := (0, 0)) hh)
            have E3 := Lib.hid (show ∀ u ∈ ([.nilIface, .int .i32 0, .iface 83 (.pointer (some ⟨wr.heap.size, 0, none⟩)), .int .i32 0, .nilIface, .int .i32 0, .int .i32 0, .int .i32 0, .bool false, .bool false, .bool false] : List Value), u.oneCell' = true from by simp [Value.oneCell'])
            have E4 := Lib.hid (show j + 1 ≤ k + 1 by omega)
            go_wp2_with (with_reducible refine wpList_append_fits _ (o := ⟨some 73, _, _, _, _, _⟩) rfl _ _ 80 rfl (w4.heap.size + 1) 82 i2 11 Try.underlying80 I2.out I21.out (w4.heap.size + 1) j (k + 1) xs rfl ((HW.out.alloc _).alloc _) ⟨wr.heap.size + 1, 0, none⟩ 1 1 [.nilIface, .int .i32 0, .iface 83 (.pointer (some ⟨wr.heap.size, 0, none⟩)), .int .i32 0, .nilIface, .int .i32 0, .int .i32 0, .int .i32 0, .bool false, .bool false, .bool false] rfl rfl E2.out E3.out E4.out ?_)
            intro w6 hown6 hgr6
            have HO6 := Lib.hid hown6
            have HG6 := Lib.hid hgr6
            clear hown6 hgr6
            go_wp2_with fail
            go_roundw
            case measure => simp [intOf]; omega
            case rel =>
              have hgr := HG6.out
              have hsz := hgr.size
              simp at hsz
              exact ⟨j + 1, _, by omega, rfl, by go_num, HO6, Lib.hid (HX.out.snoc _ _ (fun h => absurd h hja) (fun _ => ⟨⟨_, rfl⟩, rfl⟩)), Lib.hid (((HL.out.alloc (by omega) _).alloc (by simp; omega) _).grown hgr (by simp; omega) (fun q hq => by simp only [Option.some.injEq] at hq; omega)), by omega⟩
        · obtain rfl : j = k + 1 := by omega
          have p0 : wr.cell? ⟨w4.heap.size, 0, none⟩ = some .nilIface := (HL.out.cell (p := ⟨w4.heap.size, 0, none⟩) (by simp)).trans o0
          have p1 : wr.cell? ⟨w4.heap.size, 1, none⟩ = some (.int .i32 0) := (HL.out.cell (p := ⟨w4.heap.size, 1, none⟩) (by simp)).trans o1
          have q0 : wr.frozen? ⟨w4.heap.size, 0, none⟩ = false := (HL.out.frozen (p := ⟨w4.heap.size, 0, none⟩) (by simp)).trans o2
          have q1 : wr.frozen? ⟨w4.heap.size, 1, none⟩ = false := (HL.out.frozen (p := ⟨w4.heap.size, 1, none⟩) (by simp)).trans o3
          have loc : w4.heap.size < wr.heap.size := by omega
          have BW := Lib.hid (show Below w3.heap.size w3 wr from B35.out.trans (HL.out.mono (by omega)))
          have BWW := Lib.hid (show Below w.heap.size w wr from HX5.out.trans (HL.out.mono (by have := HX4.out.size; omega)))
          have hww := BWW.out.size
          have hs4 := HX4.out.size
          have HE := Lib.hid (fun v0 v1 u1 u2 => objL (at_ := at_) v0 v1 u1 u2 (show w4.heap.size < (w4.heap.size + 1) by omega) h3oc hB0 (by omega) (by omega) ⟨_, _, rfl⟩ HB3.out HW.out HX.out BW.out hL)
          go_wp2_with fail
          refine (bh22 (HE.out _ _ _ _ ) _ (Ex.refl _ _)).mono ?_
          rintro e w7 ⟨rfl, hb7⟩
          have HB7 := Lib.hid (show Below w.heap.size w w7 from (belEnd BWW.out (by omega) hww _ _ _).trans (hb7.mono (by rw [sizeEnd]; omega)))
          clear hb7 HE
          go_wp2_with fail
          go_ret
          exact ⟨rfl, HB7.out⟩
end Go.Proofs.Ytjcblmbndkacgaa.fnBindingHasObjectRestContextInvariant
