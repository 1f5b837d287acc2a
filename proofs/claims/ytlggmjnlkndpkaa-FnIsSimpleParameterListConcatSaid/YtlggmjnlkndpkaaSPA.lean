/- Proved here: contracts of the copies, of isSimpleParameterList and of the law's own model of it. Conditions: the lists' cells and lengths, as stated. -/
import Derived.Test.YtlggmjnlkndpkaaBase
import Derived.WalkKit
import Derived.WalkSpells
import Derived.WalkLawsBesides
import Derived.Lib.Hide
import Derived.Lib.SliceRun
import Derived.Deep.RegionWith
namespace Go.Proofs.Ytlggmjnlkndpkaa
open Go.RowKit
set_option linter.unusedSimpArgs false
set_option linter.unusedVariables false

/-- A slice that reads as f at each index below len; nil where len is 0 is let in. -/
def RowV (w : World) (a : Option Addr) (len : Nat) (f : Nat → Value) : Prop :=
  0 < len → ∃ B off, a = some ⟨B, off, none⟩ ∧ ∀ i, i < len → w.cell? ⟨B, off + i, none⟩ = some (f i)
theorem RowV.below {w w' : World} {a : Option Addr} {len : Nat} {f : Nat → Value} (h : RowV w a len f) (hb : Below w.heap.size w w') : RowV w' a len f := fun hp => by
  obtain ⟨B, off, e, hc⟩ := h hp
  exact ⟨B, off, e, fun i hi => kept hb (hc i hi)⟩
def ClonedV (len : Nat) (f : Nat → Value) (w : World) (e : Ending) (w' : World) : Prop :=
  ∃ a' cap', e = .returned (.slice a' len cap') ∧ RowV w' a' len f ∧ Below w.heap.size w w'
theorem rowv_ints {k : IntKind} {w : World} {a : Option Addr} {len cap : Nat} {zs : List Int} (h : IsRow k w a len cap zs) : RowV w a len (fun i => .int k (zs.getD i 0)) := by
  intro hp
  rcases h with ⟨_, rfl, _⟩ | ⟨x, rfl, hl, hm, hz, hcell, _⟩
  · omega
  · obtain ⟨b, off, rfl⟩ := spot_none (hcell 0 (by omega))
    exact ⟨b, off, rfl, fun i hi => by rw [← add_none]; exact hcell i (by omega)⟩
theorem rowv_bools {w : World} {a : Option Addr} {len cap : Nat} {zs : List Bool} (h : IsBools w a len cap zs) : RowV w a len (fun i => .bool (zs.getD i false)) := by
  intro hp
  rcases h with ⟨_, rfl, _⟩ | ⟨x, rfl, hl, hm, hz, hcell⟩
  · omega
  · obtain ⟨b, off, rfl⟩ := spot_none (hcell 0 (by omega))
    exact ⟨b, off, rfl, fun i hi => by rw [← add_none]; exact hcell i (by omega)⟩
theorem rowv_strs {w : World} {a : Option Addr} {len cap : Nat} {zs : List ByteArray} (h : IsStrs w a len cap zs) : RowV w a len (fun i => .string (zs.getD i ByteArray.empty)) := by
  intro hp
  rcases h with ⟨_, rfl, _⟩ | ⟨x, rfl, hl, hm, hz, hcell, _⟩
  · omega
  · obtain ⟨b, off, rfl⟩ := spot_none (hcell 0 (by omega))
    exact ⟨b, off, rfl, fun i hi => by rw [← add_none]; exact hcell i (by omega)⟩
theorem len_ints {k : IntKind} {w : World} {a : Option Addr} {len cap : Nat} {zs : List Int} (h : IsRow k w a len cap zs) : len ≤ maxLen ∧ len ≤ zs.length ∧ ∀ i, (Lit.int k (zs.getD i 0)).wf = true ∨ zs.length ≤ i := by
  rcases h with ⟨_, rfl, _, rfl⟩ | ⟨x, rfl, hl, hm, hz, hcell, hw⟩
  · exact ⟨by unfold maxLen; omega, by simp, fun i => .inr (by simp)⟩
  · refine ⟨by omega, by omega, fun i => ?_⟩
    by_cases hi : i < zs.length
    · left; exact hw _ (by simp [List.getD, hi])
    · right; omega
theorem len_bools {w : World} {a : Option Addr} {len cap : Nat} {zs : List Bool} (h : IsBools w a len cap zs) : len ≤ maxLen := by
  rcases h with ⟨_, rfl, _, rfl⟩ | ⟨x, rfl, hl, hm, hz, hcell⟩
  · unfold maxLen; omega
  · omega
theorem len_strs {w : World} {a : Option Addr} {len cap : Nat} {zs : List ByteArray} (h : IsStrs w a len cap zs) : len ≤ maxLen ∧ ∀ i, (zs.getD i ByteArray.empty).size ≤ maxLen := by
  rcases h with ⟨_, rfl, _, rfl⟩ | ⟨x, rfl, hl, hm, hz, hcell, hw⟩
  · exact ⟨by unfold maxLen; omega, fun i => by simp⟩
  · refine ⟨by omega, fun i => ?_⟩
    by_cases hi : i < zs.length
    · exact hw _ (by simp [List.getD, hi])
    · simp [List.getD, hi]

/-- What the copy 'cpU8' hands back of a slice that is not nil. -/
def cpU8Post (len : Nat) (zs : List Int) (w : World) (e : Ending) (w' : World) : Prop :=
  ∃ cs, e = .returned (.slice (some ⟨w.heap.size, 0, none⟩) len len) ∧ At w' w.heap.size 5 cs ∧ cs.size = len ∧ (∀ i, i < len → cs[i]? = some (.int .u8 (zs.getD i 0))) ∧ Below w.heap.size w w'
def cpU8Rel (len : Nat) (zs : List Int) (w : World) (i : Value) (wr : World) : Prop :=
  ∃ (k : Nat) (cs : Array Value), k ≤ len ∧ i = .int .i64 k ∧ At wr w.heap.size 5 cs ∧ cs.size = len ∧ (∀ j, j < k → cs[j]? = some (.int .u8 (zs.getD j 0))) ∧ Below w.heap.size w wr
theorem cpU8_nil (w : World) : Calls Try.prog 15 #[.slice none 0 0] w fun e w' => e = .returned (.slice none 0 0) ∧ w = w' := by
  have qT : ∀ (w : World) (a : Option Addr) (n c n' c' : Nat), (binOp .eql 22 (.slice a n c) (.slice none n' c')).run Try.prog w = .ok (.bool a.isNone) w := fun w a n c n' c' => Lib.run_eql_slice_nil w 22 5 a n c n' c' Try.underlying22
  go_enter Try.func15, Try.ntmps15
  go_wp2_with fail
  go_ret
  exact ⟨rfl, rfl⟩
set_option maxRecDepth 100000 in
set_option maxHeartbeats 1000000 in
theorem cpU8_some (x : Addr) (len cap : Nat) (zs : List Int) (w : World) (hz : len ≤ zs.length) (hcell : ∀ i, i < zs.length → w.cell? (x.add i) = some (.int .u8 (zs.getD i 0))) (hlen : len ≤ 1048576) :
    Calls Try.prog 15 #[.slice (some x) len cap] w (cpU8Post len zs w) := by
  have qT : ∀ (w : World) (a : Option Addr) (n c n' c' : Nat), (binOp .eql 22 (.slice a n c) (.slice none n' c')).run Try.prog w = .ok (.bool a.isNone) w := fun w a n c n' c' => Lib.run_eql_slice_nil w 22 5 a n c n' c' Try.underlying22
  have hmk := made (P := Try.prog) (t := 22) (e := 5) (z := .int .u8 0) (sz := 1) (by_ := 1) Try.underlying22 (by kernel_rfl) w len (by omega) (by omega)
  rw [Nat.mul_one] at hmk
  have HC := Lib.hid hcell
  clear hcell
  go_enter Try.func15, Try.ntmps15
  go_wp2_with fail
  go_loopw [4] (fun i wr => cpU8Rel len zs w i wr) (fun i _ => len - (intOf i).toNat)
  case atStart => exact ⟨0, _, Nat.zero_le _, rfl, At.new _ _ _, by simp [size_madeCells, Value.cells], fun j hj => absurd hj (by omega), (Below.refl _ _).alloc (Nat.le_refl _) _⟩
  case round =>
    obtain ⟨k, cs, hk, rfl, hat, hsz, hcs, hb⟩ := hrel
    by_cases hlt : k < len
    · have hc := HC.out k (by omega)
      obtain ⟨b, off, rfl⟩ := spot_none (HC.out 0 (by omega))
      rw [add_none] at hc
      have hc1 : wr.cell? ⟨b, off + k, none⟩ = some (.int .u8 (zs.getD k 0)) := by
        exact kept hb hc
      have hd : wr.cell? ⟨w.heap.size, k, none⟩ = some cs[k] := by rw [hat.cell k]; simp [hsz, hlt]
      have hf := hat.frozen k
      clear hc
      have HAT := Lib.hid hat
      have HCS := Lib.hid hcs
      have HSZ := Lib.hid hsz
      clear hat hcs
      go_wp2_with fail
      go_roundw
      case rel =>
        refine ⟨k + 1, _, by omega, by go_num, HAT.out.set k _, by simp [HSZ.out], ?_, hb.setCell (Nat.le_refl _) _⟩
        intro j hj
        by_cases e : j = k
        · subst e; simp [HSZ.out, hlt]
        · rw [Array.getElem?_setIfInBounds_ne (by omega)]; exact HCS.out j (by omega)
      case measure => simp [intOf]; omega
    · have e : k = len := by omega
      subst e
      have HAT := Lib.hid hat
      have HCS := Lib.hid hcs
      have HSZ := Lib.hid hsz
      clear hat hcs hsz
      go_wp2_with fail
      go_ret
      exact ⟨cs, rfl, HAT.out, HSZ.out, HCS.out, hb⟩

theorem cpU8_any (a : Option Addr) (len cap : Nat) (zs : List Int) (w : World) (h : IsRow .u8 w a len cap zs) (hlen : len ≤ 1048576) :
    Calls Try.prog 15 #[.slice a len cap] w (ClonedV len (fun i => .int .u8 (zs.getD i 0)) w) := by
  rcases h with ⟨rfl, rfl, rfl, rfl⟩ | ⟨x, rfl, hl, hm, hz, hcell, hwz⟩
  · refine (cpU8_nil w).mono ?_
    rintro e w' ⟨rfl, rfl⟩
    exact ⟨none, 0, rfl, fun h => absurd h (by omega), Below.refl _ _⟩
  · refine (cpU8_some x len cap zs w (by omega) hcell hlen).mono ?_
    rintro e w' ⟨cs, rfl, hat, hsz, hcs, hb⟩
    exact ⟨_, _, rfl, fun _ => ⟨w.heap.size, 0, rfl, fun i hi => by rw [hat.cell, Nat.zero_add]; exact hcs i hi⟩, hb⟩

/-- What the copy 'cpB' hands back of a slice that is not nil. -/
def cpBPost (len : Nat) (zs : List Bool) (w : World) (e : Ending) (w' : World) : Prop :=
  ∃ cs, e = .returned (.slice (some ⟨w.heap.size, 0, none⟩) len len) ∧ At w' w.heap.size 4 cs ∧ cs.size = len ∧ (∀ i, i < len → cs[i]? = some (.bool (zs.getD i false))) ∧ Below w.heap.size w w'
def cpBRel (len : Nat) (zs : List Bool) (w : World) (i : Value) (wr : World) : Prop :=
  ∃ (k : Nat) (cs : Array Value), k ≤ len ∧ i = .int .i64 k ∧ At wr w.heap.size 4 cs ∧ cs.size = len ∧ (∀ j, j < k → cs[j]? = some (.bool (zs.getD j false))) ∧ Below w.heap.size w wr
theorem cpB_nil (w : World) : Calls Try.prog 16 #[.slice none 0 0] w fun e w' => e = .returned (.slice none 0 0) ∧ w = w' := by
  have qT : ∀ (w : World) (a : Option Addr) (n c n' c' : Nat), (binOp .eql 36 (.slice a n c) (.slice none n' c')).run Try.prog w = .ok (.bool a.isNone) w := fun w a n c n' c' => Lib.run_eql_slice_nil w 36 4 a n c n' c' Try.underlying36
  go_enter Try.func16, Try.ntmps16
  go_wp2_with fail
  go_ret
  exact ⟨rfl, rfl⟩
set_option maxRecDepth 100000 in
set_option maxHeartbeats 1000000 in
theorem cpB_some (x : Addr) (len cap : Nat) (zs : List Bool) (w : World) (hz : len ≤ zs.length) (hcell : ∀ i, i < zs.length → w.cell? (x.add i) = some (.bool (zs.getD i false))) (hlen : len ≤ 1048576) :
    Calls Try.prog 16 #[.slice (some x) len cap] w (cpBPost len zs w) := by
  have qT : ∀ (w : World) (a : Option Addr) (n c n' c' : Nat), (binOp .eql 36 (.slice a n c) (.slice none n' c')).run Try.prog w = .ok (.bool a.isNone) w := fun w a n c n' c' => Lib.run_eql_slice_nil w 36 4 a n c n' c' Try.underlying36
  have hmk := made (P := Try.prog) (t := 36) (e := 4) (z := .bool false) (sz := 1) (by_ := 1) Try.underlying36 (by kernel_rfl) w len (by omega) (by omega)
  rw [Nat.mul_one] at hmk
  have HC := Lib.hid hcell
  clear hcell
  go_enter Try.func16, Try.ntmps16
  go_wp2_with fail
  go_loopw [4] (fun i wr => cpBRel len zs w i wr) (fun i _ => len - (intOf i).toNat)
  case atStart => exact ⟨0, _, Nat.zero_le _, rfl, At.new _ _ _, by simp [size_madeCells, Value.cells], fun j hj => absurd hj (by omega), (Below.refl _ _).alloc (Nat.le_refl _) _⟩
  case round =>
    obtain ⟨k, cs, hk, rfl, hat, hsz, hcs, hb⟩ := hrel
    by_cases hlt : k < len
    · have hc := HC.out k (by omega)
      obtain ⟨b, off, rfl⟩ := spot_none (HC.out 0 (by omega))
      rw [add_none] at hc
      have hc1 : wr.cell? ⟨b, off + k, none⟩ = some (.bool (zs.getD k false)) := by
        exact kept hb hc
      have hd : wr.cell? ⟨w.heap.size, k, none⟩ = some cs[k] := by rw [hat.cell k]; simp [hsz, hlt]
      have hf := hat.frozen k
      clear hc
      have HAT := Lib.hid hat
      have HCS := Lib.hid hcs
      have HSZ := Lib.hid hsz
      clear hat hcs
      go_wp2_with fail
      go_roundw
      case rel =>
        refine ⟨k + 1, _, by omega, by go_num, HAT.out.set k _, by simp [HSZ.out], ?_, hb.setCell (Nat.le_refl _) _⟩
        intro j hj
        by_cases e : j = k
        · subst e; simp [HSZ.out, hlt]
        · rw [Array.getElem?_setIfInBounds_ne (by omega)]; exact HCS.out j (by omega)
      case measure => simp [intOf]; omega
    · have e : k = len := by omega
      subst e
      have HAT := Lib.hid hat
      have HCS := Lib.hid hcs
      have HSZ := Lib.hid hsz
      clear hat hcs hsz
      go_wp2_with fail
      go_ret
      exact ⟨cs, rfl, HAT.out, HSZ.out, HCS.out, hb⟩

theorem cpB_any (a : Option Addr) (len cap : Nat) (zs : List Bool) (w : World) (h : IsBools w a len cap zs) (hlen : len ≤ 1048576) :
    Calls Try.prog 16 #[.slice a len cap] w (ClonedV len (fun i => .bool (zs.getD i false)) w) := by
  rcases h with ⟨rfl, rfl, rfl, rfl⟩ | ⟨x, rfl, hl, hm, hz, hcell⟩
  · refine (cpB_nil w).mono ?_
    rintro e w' ⟨rfl, rfl⟩
    exact ⟨none, 0, rfl, fun h => absurd h (by omega), Below.refl _ _⟩
  · refine (cpB_some x len cap zs w (by omega) hcell hlen).mono ?_
    rintro e w' ⟨cs, rfl, hat, hsz, hcs, hb⟩
    exact ⟨_, _, rfl, fun _ => ⟨w.heap.size, 0, rfl, fun i hi => by rw [hat.cell, Nat.zero_add]; exact hcs i hi⟩, hb⟩

/-- Element i of a list of parameters at block B from off on: is it a plain identifier (id), has it a default (df)? -/
def ArgOK (w : World) (B off i : Nat) (id df : Bool) : Prop :=
  ∃ t v l d l2, (id = true → t = 98) ∧ (id = false → t ≠ 98) ∧ (df = false → d = .nilIface) ∧ (df = true → ∃ t' v', d = .iface t' v') ∧
    w.cell? ⟨B, off + i * 6, none⟩ = some (.iface t v) ∧ w.cell? ⟨B, off + i * 6 + 1, none⟩ = some (.int .i32 l) ∧ w.cell? ⟨B, off + i * 6 + 2, none⟩ = some d ∧ w.cell? ⟨B, off + i * 6 + 3, none⟩ = some (.int .i32 l2) ∧ w.cell? ⟨B, off + i * 6 + 4, none⟩ = some (.slice none 0 0) ∧ w.cell? ⟨B, off + i * 6 + 5, none⟩ = some (.bool false)
theorem ArgOK.below {w w' : World} {B off i : Nat} {id df : Bool} (h : ArgOK w B off i id df) (hb : Below w.heap.size w w') : ArgOK w' B off i id df := by
  obtain ⟨t, v, l, d, l2, h1, h2, h3, h4, c0, c1, c2, c3, c4, c5⟩ := h
  exact ⟨t, v, l, d, l2, h1, h2, h3, h4, kept hb c0, kept hb c1, kept hb c2, kept hb c3, kept hb c4, kept hb c5⟩
def Args (w : World) (a : Option Addr) (n : Nat) (idf dff : Nat → Bool) : Prop :=
  0 < n → ∃ B off, a = some ⟨B, off, none⟩ ∧ ∀ i, i < n → ArgOK w B off i (idf i) (dff i)
theorem Args.below {w w' : World} {a : Option Addr} {n : Nat} {idf dff : Nat → Bool} (h : Args w a n idf dff) (hb : Below w.heap.size w w') : Args w' a n idf dff := fun hp => by
  obtain ⟨B, off, e, hc⟩ := h hp
  exact ⟨B, off, e, fun i hi => (hc i hi).below hb⟩
def Simple (n : Nat) (idf dff : Nat → Bool) : Prop := ∀ i, i < n → idf i = true ∧ dff i = false
def SimplePost (rest : Bool) (n : Nat) (idf dff : Nat → Bool) (w : World) (e : Ending) (w' : World) : Prop :=
  ∃ g : Bool, e = .returned (.bool g) ∧ (g = true ↔ rest = false ∧ Simple n idf dff) ∧ Below w.heap.size w w'
def SRel (n : Nat) (idf dff : Nat → Bool) (w : World) (i : Value) (wr : World) : Prop :=
  ∃ k : Nat, k ≤ n ∧ i = .int .i64 k ∧ Below w.heap.size w wr ∧ Hid (∀ j, j < k → idf j = true ∧ dff j = false)
set_option maxRecDepth 100000 in
set_option maxHeartbeats 1000000 in
theorem simple_f (a : Option Addr) (n cap : Nat) (idf dff : Nat → Bool) (w : World) (h : Args w a n idf dff) (hn : n ≤ 1048576) :
    Calls Try.prog 51 #[.slice a n cap, .bool false] w (SimplePost false n idf dff w) := by
  have H := Lib.hid h
  clear h
  go_enter Try.func51, Try.ntmps51
  go_wp2_with fail
  go_loopw [12] (fun i wr => SRel n idf dff w i wr) (fun i _ => n - (intOf i).toNat)
  case atStart => exact ⟨0, by omega, rfl, Below.refl _ _, Lib.hid (fun j hj => absurd hj (by omega))⟩
  case round =>
    obtain ⟨k, hk, rfl, hb, HA⟩ := hrel
    by_cases hlt : k < n
    · obtain ⟨B, off, rfl, hc⟩ := (H.out.below hb) (by omega)
      obtain ⟨t, v, l, d, l2, h1, h2, h3, h4, c0, c1, c2, c3, c4, c5⟩ := hc k hlt
      clear hc
      have hB : B < wr.heap.size := World.block_lt_of_cell? _ _ c0
      cases hid : idf k
      · have ht := h2 hid
        have hd : d = .nilIface ∨ ∃ t' v', d = .iface t' v' := by
          cases hdf : dff k
          · exact .inl (h3 hdf)
          · exact .inr (h4 hdf)
        clear h1 h2 h3 h4
        have NS := Lib.hid (show ¬ Simple n idf dff from fun hs => by have := (hs k hlt).1; rw [hid] at this; cases this)
        clear hid
        rcases hd with rfl | ⟨t', v', rfl⟩
        all_goals
          go_wp2_with fail
          go_ret
          exact ⟨false, rfl, by simp [NS.out], (by repeat (first | with_reducible exact hb | (with_reducible refine Below.drew ?_) | (with_reducible refine Below.alloc ?_ (by have := Below.size hb; simp; try omega) _) | (with_reducible refine Below.setCell ?_ (by have := Below.size hb; simp; try omega) _)))⟩
      · obtain rfl := h1 hid
        cases hdf : dff k
        · obtain rfl := h3 hdf
          clear h1 h2 h3 h4
          have NS := Lib.hid (show ∀ j, j < k + 1 → idf j = true ∧ dff j = false from fun j hj => by
            by_cases e : j = k
            · subst e; exact ⟨hid, hdf⟩
            · exact HA.out j (by omega))
          clear hid hdf HA
          go_wp2_with fail
          go_roundw
          case rel => exact ⟨k + 1, by omega, by go_num, (by repeat (first | with_reducible exact hb | (with_reducible refine Below.drew ?_) | (with_reducible refine Below.alloc ?_ (by have := Below.size hb; simp; try omega) _) | (with_reducible refine Below.setCell ?_ (by have := Below.size hb; simp; try omega) _))), NS.out |> Lib.hid⟩
          case measure => simp [intOf]; omega
        · obtain ⟨t', v', rfl⟩ := h4 hdf
          clear h1 h2 h3 h4
          have NS := Lib.hid (show ¬ Simple n idf dff from fun hs => by have := (hs k hlt).2; rw [hdf] at this; cases this)
          clear hid hdf
          go_wp2_with fail
          go_ret
          exact ⟨false, rfl, by simp [NS.out], (by repeat (first | with_reducible exact hb | (with_reducible refine Below.drew ?_) | (with_reducible refine Below.alloc ?_ (by have := Below.size hb; simp; try omega) _) | (with_reducible refine Below.setCell ?_ (by have := Below.size hb; simp; try omega) _)))⟩
    · have e : k = n := by omega
      subst e
      have HS := Lib.hid (show Simple k idf dff from HA.out)
      go_wp2_with fail
      go_ret
      exact ⟨true, rfl, by simp [HS.out], hb⟩
set_option maxRecDepth 100000 in
theorem simple_t (a : Option Addr) (n cap : Nat) (idf dff : Nat → Bool) (w : World) :
    Calls Try.prog 51 #[.slice a n cap, .bool true] w (SimplePost true n idf dff w) := by
  go_enter Try.func51, Try.ntmps51
  go_wp2_with fail
  go_ret
  exact ⟨false, rfl, by simp, Below.refl _ _⟩
set_option maxRecDepth 100000 in
theorem simple_any (a : Option Addr) (n cap : Nat) (rest : Bool) (idf dff : Nat → Bool) (w : World) (h : Args w a n idf dff) (hn : n ≤ 1048576) :
    Calls Try.prog 18 #[.slice a n cap, .bool rest] w (SimplePost rest n idf dff w) := by
  have C : Calls Try.prog 51 #[.slice a n cap, .bool rest] w (SimplePost rest n idf dff w) := by
    cases rest
    · exact simple_f a n cap idf dff w h hn
    · exact simple_t a n cap idf dff w
  have HC := Lib.hid C
  clear C h
  go_enter Try.func18, Try.ntmps18
  go_wp2_with fail
  refine HC.out.mono ?_
  rintro e w1 ⟨g, rfl, hg, hb⟩
  have HG := Lib.hid hg
  clear hg
  go_wp2_with fail
  go_ret
  exact ⟨g, rfl, HG.out, hb⟩

def kOK (zs : List Int) (i : Nat) : Prop := zs.getD i 0 % 4 = 0
def ModelPost (R : Prop) (n m : Nat) (zs : List Int) (ds : List Bool) (w : World) (e : Ending) (w' : World) : Prop :=
  ∃ g : Bool, e = .returned (.bool g) ∧ (g = true ↔ R ∧ (∀ i, i < n → kOK zs i) ∧ (∀ i, i < m → i < n → ds.getD i false = false)) ∧ w = w'
def MRel1 (R : Prop) (n : Nat) (zs : List Int) (b i : Value) : Prop :=
  ∃ k c : Nat, k ≤ n ∧ i = .int .i64 k ∧ b = .int .i64 c ∧ c ≤ k + 1 ∧ Hid (c = 0 ↔ R ∧ ∀ j, j < k → kOK zs j)
def MRel2 (R : Prop) (n m : Nat) (zs : List Int) (ds : List Bool) (b i : Value) : Prop :=
  ∃ k c : Nat, k ≤ n ∧ k ≤ m ∧ i = .int .i64 k ∧ b = .int .i64 c ∧ c ≤ n + k + 1 ∧ Hid (c = 0 ↔ R ∧ (∀ j, j < n → kOK zs j) ∧ ∀ j, j < k → ds.getD j false = false)
theorem mstep1 {R : Prop} {zs : List Int} {k c : Nat} (h : c = 0 ↔ R ∧ ∀ j, j < k → kOK zs j) (hk : kOK zs k) : c = 0 ↔ R ∧ ∀ j, j < k + 1 → kOK zs j := by
  rw [h]
  refine and_congr_right fun _ => ⟨fun g j hj => ?_, fun g j hj => g j (by omega)⟩
  by_cases e : j = k
  · subst e; exact hk
  · exact g j (by omega)
theorem mstep1n {R : Prop} {zs : List Int} {k c : Nat} (hk : ¬ kOK zs k) : c + 1 = 0 ↔ R ∧ ∀ j, j < k + 1 → kOK zs j :=
  ⟨fun h => by omega, fun ⟨_, g⟩ => absurd (g k (by omega)) hk⟩
theorem mstep2 {P : Prop} {ds : List Bool} {k c : Nat} {R : Prop} (h : c = 0 ↔ R ∧ P ∧ ∀ j, j < k → ds.getD j false = false) (hk : ds.getD k false = false) : c = 0 ↔ R ∧ P ∧ ∀ j, j < k + 1 → ds.getD j false = false := by
  rw [h]
  refine and_congr_right fun _ => and_congr_right fun _ => ⟨fun g j hj => ?_, fun g j hj => g j (by omega)⟩
  by_cases e : j = k
  · subst e; exact hk
  · exact g j (by omega)
theorem mstep2n {P : Prop} {ds : List Bool} {k c : Nat} {R : Prop} (hk : ds.getD k false = true) : c + 1 = 0 ↔ R ∧ P ∧ ∀ j, j < k + 1 → ds.getD j false = false :=
  ⟨fun h => by omega, fun ⟨_, _, g⟩ => by have := g k (by omega); rw [hk] at this; cases this⟩
theorem mend {P : Prop} {ds : List Bool} {k c m n : Nat} {R : Prop} (h : c = 0 ↔ R ∧ P ∧ ∀ j, j < k → ds.getD j false = false) (hk : (k = m ∧ k ≤ n) ∨ (k = n ∧ k ≤ m)) : ((c : Int) == 0) = true ↔ R ∧ P ∧ ∀ i, i < m → i < n → ds.getD i false = false := by
  have e : ((c : Int) == 0) = true ↔ c = 0 := by simp
  rw [e, h]
  exact and_congr_right fun _ => and_congr_right fun _ => ⟨fun g j h1 h2 => g j (by omega), fun g j hj => g j (by omega) (by omega)⟩
set_option maxRecDepth 100000 in
set_option maxHeartbeats 1000000 in
theorem model_R (R : Prop) (a : Option Addr) (n cap : Nat) (zs : List Int) (a2 : Option Addr) (m cap2 : Nat) (ds : List Bool) (rest : Bool) (w : World) (hR : R ↔ rest = false) (h : RowV w a n (fun i => .int .u8 (zs.getD i 0))) (h2 : RowV w a2 m (fun i => .bool (ds.getD i false))) (hz : ∀ i, i < n → 0 ≤ zs.getD i 0 ∧ zs.getD i 0 ≤ 255) (hn : n ≤ 1048576) (hm : m ≤ 1048576) :
    Calls Try.prog 19 #[.slice a n cap, .slice a2 m cap2, .bool rest] w (ModelPost R n m zs ds w) := by
  have H := Lib.hid h
  have H2 := Lib.hid h2
  have HZ := Lib.hid hz
  clear h h2 hz
  have HR : Hid (R ↔ rest = false) := Lib.hid hR
  clear hR
  obtain ⟨hr, ht⟩ : (rest = false → R) ∧ (rest = true → ¬ R) := by have := HR.out; cases rest <;> simp_all
  cases rest
  · have Hr := Lib.hid (hr rfl)
    clear hr ht HR
    go_enter Try.func19, Try.ntmps19
    go_wp2_with fail
    go_loop [7, 8] (fun b i => MRel1 R n zs b i) (fun _ i => n - (intOf i).toNat)
    case atStart => first | exact ⟨0, 0, by omega, rfl, rfl, by omega, Lib.hid (by simp [Hr.out])⟩ | exact ⟨0, 1, by omega, rfl, rfl, by omega, Lib.hid (by simp [Hr.out])⟩
    case round =>
      obtain ⟨k, c, hk, rfl, rfl, hc, HA⟩ := hrel
      by_cases hlt : k < n
      · obtain ⟨B, off, rfl, hcell⟩ := H.out (by omega)
        have c0 := hcell k hlt
        have hB : B < w.heap.size := World.block_lt_of_cell? _ _ c0
        obtain ⟨hz0, hz1⟩ := HZ.out k hlt
        clear hcell
        obtain ⟨z, hzz⟩ : ∃ z, z = zs.getD k 0 := ⟨_, rfl⟩
        simp only [← hzz] at c0 hz0 hz1
        have HZZ := Lib.hid hzz
        clear hzz
        by_cases h4 : z % 4 = 0
        · have ST := Lib.hid (mstep1 HA.out (show kOK zs k by unfold kOK; rw [← HZZ.out]; exact h4))
          have h4' : (z % 4 != 0) = false := by simp [h4]
          clear h4
          go_wp2_with fail
          go_round
          case rel => exact ⟨k + 1, c, by omega, by go_num, rfl, by omega, ST.out |> Lib.hid⟩
          case measure => simp [intOf]; omega
        · have ST := Lib.hid (mstep1n (R := R) (c := c) (show ¬ kOK zs k by unfold kOK; rw [← HZZ.out]; exact h4))
          have h4' : (z % 4 != 0) = true := by simp [h4]
          clear h4
          go_wp2_with fail
          go_round
          case rel => exact ⟨k + 1, c + 1, by omega, by go_num, by go_num, by omega, ST.out |> Lib.hid⟩
          case measure => simp [intOf]; omega
      · have e : k = n := by omega
        subst e
        go_wp2_with fail
        go_loop [7, 9] (fun b i => MRel2 R k m zs ds b i) (fun _ i => m - (intOf i).toNat)
        case atStart => exact ⟨0, c, by omega, by omega, rfl, rfl, by omega, Lib.hid (by rw [HA.out]; simp)⟩
        case round =>
          obtain ⟨k2, c2, hk2, hk2m, rfl, rfl, hc2, HA2⟩ := hrel
          by_cases hlt2 : k2 < m
          · by_cases hlt3 : k2 < k
            · obtain ⟨B, off, rfl, hcell⟩ := H2.out (by omega)
              have c0 := hcell k2 hlt2
              have hB : B < w.heap.size := World.block_lt_of_cell? _ _ c0
              clear hcell
              cases hd : ds.getD k2 false
              · simp only [hd] at c0
                have ST := Lib.hid (mstep2 HA2.out hd)
                clear hd
                go_wp2_with fail
                go_round
                case rel => exact ⟨k2 + 1, c2, by omega, by omega, by go_num, rfl, by omega, ST.out |> Lib.hid⟩
                case measure => simp [intOf]; omega
              · simp only [hd] at c0
                have ST := Lib.hid (mstep2n (P := ∀ j, j < k → kOK zs j) (R := R) (c := c2) hd)
                clear hd
                go_wp2_with fail
                go_round
                case rel => exact ⟨k2 + 1, c2 + 1, by omega, by omega, by go_num, by go_num, by omega, ST.out |> Lib.hid⟩
                case measure => simp [intOf]; omega
            · have hge : decide (k2 < k) = false := by simp; omega
              have ST := Lib.hid (mend (m := m) (n := k) HA2.out (by omega))
              go_wp2_with fail
              go_ret
              exact ⟨_, rfl, ST.out, rfl⟩
          · have ST := Lib.hid (mend (m := m) (n := k) HA2.out (by omega))
            go_wp2_with fail
            go_ret
            exact ⟨_, rfl, ST.out, rfl⟩
  · have Hr := Lib.hid (ht rfl)
    clear hr ht HR
    go_enter Try.func19, Try.ntmps19
    go_wp2_with fail
    go_loop [7, 8] (fun b i => MRel1 R n zs b i) (fun _ i => n - (intOf i).toNat)
    case atStart => first | exact ⟨0, 0, by omega, rfl, rfl, by omega, Lib.hid (by simp [Hr.out])⟩ | exact ⟨0, 1, by omega, rfl, rfl, by omega, Lib.hid (by simp [Hr.out])⟩
    case round =>
      obtain ⟨k, c, hk, rfl, rfl, hc, HA⟩ := hrel
      by_cases hlt : k < n
      · obtain ⟨B, off, rfl, hcell⟩ := H.out (by omega)
        have c0 := hcell k hlt
        have hB : B < w.heap.size := World.block_lt_of_cell? _ _ c0
        obtain ⟨hz0, hz1⟩ := HZ.out k hlt
        clear hcell
        obtain ⟨z, hzz⟩ : ∃ z, z = zs.getD k 0 := ⟨_, rfl⟩
        simp only [← hzz] at c0 hz0 hz1
        have HZZ := Lib.hid hzz
        clear hzz
        by_cases h4 : z % 4 = 0
        · have ST := Lib.hid (mstep1 HA.out (show kOK zs k by unfold kOK; rw [← HZZ.out]; exact h4))
          have h4' : (z % 4 != 0) = false := by simp [h4]
          clear h4
          go_wp2_with fail
          go_round
          case rel => exact ⟨k + 1, c, by omega, by go_num, rfl, by omega, ST.out |> Lib.hid⟩
          case measure => simp [intOf]; omega
        · have ST := Lib.hid (mstep1n (R := R) (c := c) (show ¬ kOK zs k by unfold kOK; rw [← HZZ.out]; exact h4))
          have h4' : (z % 4 != 0) = true := by simp [h4]
          clear h4
          go_wp2_with fail
          go_round
          case rel => exact ⟨k + 1, c + 1, by omega, by go_num, by go_num, by omega, ST.out |> Lib.hid⟩
          case measure => simp [intOf]; omega
      · have e : k = n := by omega
        subst e
        go_wp2_with fail
        go_loop [7, 9] (fun b i => MRel2 R k m zs ds b i) (fun _ i => m - (intOf i).toNat)
        case atStart => exact ⟨0, c, by omega, by omega, rfl, rfl, by omega, Lib.hid (by rw [HA.out]; simp)⟩
        case round =>
          obtain ⟨k2, c2, hk2, hk2m, rfl, rfl, hc2, HA2⟩ := hrel
          by_cases hlt2 : k2 < m
          · by_cases hlt3 : k2 < k
            · obtain ⟨B, off, rfl, hcell⟩ := H2.out (by omega)
              have c0 := hcell k2 hlt2
              have hB : B < w.heap.size := World.block_lt_of_cell? _ _ c0
              clear hcell
              cases hd : ds.getD k2 false
              · simp only [hd] at c0
                have ST := Lib.hid (mstep2 HA2.out hd)
                clear hd
                go_wp2_with fail
                go_round
                case rel => exact ⟨k2 + 1, c2, by omega, by omega, by go_num, rfl, by omega, ST.out |> Lib.hid⟩
                case measure => simp [intOf]; omega
              · simp only [hd] at c0
                have ST := Lib.hid (mstep2n (P := ∀ j, j < k → kOK zs j) (R := R) (c := c2) hd)
                clear hd
                go_wp2_with fail
                go_round
                case rel => exact ⟨k2 + 1, c2 + 1, by omega, by omega, by go_num, by go_num, by omega, ST.out |> Lib.hid⟩
                case measure => simp [intOf]; omega
            · have hge : decide (k2 < k) = false := by simp; omega
              have ST := Lib.hid (mend (m := m) (n := k) HA2.out (by omega))
              go_wp2_with fail
              go_ret
              exact ⟨_, rfl, ST.out, rfl⟩
          · have ST := Lib.hid (mend (m := m) (n := k) HA2.out (by omega))
            go_wp2_with fail
            go_ret
            exact ⟨_, rfl, ST.out, rfl⟩
theorem model_any (a : Option Addr) (n cap : Nat) (zs : List Int) (a2 : Option Addr) (m cap2 : Nat) (ds : List Bool) (rest : Bool) (w : World) (h : RowV w a n (fun i => .int .u8 (zs.getD i 0))) (h2 : RowV w a2 m (fun i => .bool (ds.getD i false))) (hz : ∀ i, i < n → 0 ≤ zs.getD i 0 ∧ zs.getD i 0 ≤ 255) (hn : n ≤ 1048576) (hm : m ≤ 1048576) :
    Calls Try.prog 19 #[.slice a n cap, .slice a2 m cap2, .bool rest] w (ModelPost (rest = false) n m zs ds w) := model_R _ a n cap zs a2 m cap2 ds rest w Iff.rfl h h2 hz hn hm
end Go.Proofs.Ytlggmjnlkndpkaa
