/- Proved here: the walk of the law FnShouldKeepVarKeepsExactlyItsIdentifiers, for every input. -/
import Derived.Test.YtppcfibhpgjnoaaBND
import Derived.WalkKit
import Derived.WalkSpells
import Derived.WalkLawsBesides
import Derived.Lib.Hide
import Derived.Lib.SliceRun
import Derived.Deep.RegionWith
import Derived.OwnWalk
import Derived.Laws.OwnMore
import Derived.Deep.AppendLies
import Derived.BigQuiet
import Derived.Deep.RegionHeld3
import Derived.Deep.RegionLaw
namespace Go.Proofs.Ytppcfibhpgjnoaa.fnShouldKeepVarKeepsExactlyItsIdentifiers
open Go.RowKit
set_option linter.unusedSimpArgs false
set_option linter.unusedVariables false

/-- A slice that reads as f at each index below len; nil where len is 0 is let in. -/
def RowV (w : World) (a : Option Addr) (len : Nat) (f : Nat → Value) : Prop :=
  0 < len → ∃ B off, a = some ⟨B, off, none⟩ ∧ ∀ i, i < len → w.cell? ⟨B, off + i, none⟩ = some (f i)
theorem RowV.below {w w' : World} {a : Option Addr} {len : Nat} {f : Nat → Value} (h : RowV w a len f) (hb : Below w.heap.size w w') : RowV w' a len f := fun hp => by
  obtain ⟨B, off, e, hc⟩ := h hp
  exact ⟨B, off, e, fun i hi => kept hb (hc i hi)⟩
def ClonedV (len : Nat) (f : Nat → Value) (w : World) (e : Ending) (w' : World) : Prop :=
  ∃ a' cap', e = .returned (.slice a' len cap') ∧ RowV w' a' len f ∧ Below w.heap.size w w'
theorem rowv_ints {k : IntKind} {w : World} {a : Option Addr} {len cap : Nat} {zs : List Int} (h : IsRow k w a len cap zs) : RowV w a len (fun i => .int k (zs.getD i 0)) := by
  intro hp
  rcases h with ⟨_, rfl, _⟩ | ⟨x, rfl, hl, hm, hz, hcell, _⟩
  · omega
  · obtain ⟨b, off, rfl⟩ := spot_none (hcell 0 (by omega))
    exact ⟨b, off, rfl, fun i hi => by rw [← add_none]; exact hcell i (by omega)⟩
theorem rowv_bools {w : World} {a : Option Addr} {len cap : Nat} {zs : List Bool} (h : IsBools w a len cap zs) : RowV w a len (fun i => .bool (zs.getD i false)) := by
  intro hp
  rcases h with ⟨_, rfl, _⟩ | ⟨x, rfl, hl, hm, hz, hcell⟩
  · omega
  · obtain ⟨b, off, rfl⟩ := spot_none (hcell 0 (by omega))
    exact ⟨b, off, rfl, fun i hi => by rw [← add_none]; exact hcell i (by omega)⟩
theorem rowv_strs {w : World} {a : Option Addr} {len cap : Nat} {zs : List ByteArray} (h : IsStrs w a len cap zs) : RowV w a len (fun i => .string (zs.getD i ByteArray.empty)) := by
  intro hp
  rcases h with ⟨_, rfl, _⟩ | ⟨x, rfl, hl, hm, hz, hcell, _⟩
  · omega
  · obtain ⟨b, off, rfl⟩ := spot_none (hcell 0 (by omega))
    exact ⟨b, off, rfl, fun i hi => by rw [← add_none]; exact hcell i (by omega)⟩
theorem len_ints {k : IntKind} {w : World} {a : Option Addr} {len cap : Nat} {zs : List Int} (h : IsRow k w a len cap zs) : len ≤ maxLen ∧ len ≤ zs.length ∧ ∀ i, (Lit.int k (zs.getD i 0)).wf = true ∨ zs.length ≤ i := by
  rcases h with ⟨_, rfl, _, rfl⟩ | ⟨x, rfl, hl, hm, hz, hcell, hw⟩
  · exact ⟨by unfold maxLen; omega, by simp, fun i => .inr (by simp)⟩
  · refine ⟨by omega, by omega, fun i => ?_⟩
    by_cases hi : i < zs.length
    · left; exact hw _ (by simp [List.getD, hi])
    · right; omega
theorem len_bools {w : World} {a : Option Addr} {len cap : Nat} {zs : List Bool} (h : IsBools w a len cap zs) : len ≤ maxLen := by
  rcases h with ⟨_, rfl, _, rfl⟩ | ⟨x, rfl, hl, hm, hz, hcell⟩
  · unfold maxLen; omega
  · omega
theorem len_strs {w : World} {a : Option Addr} {len cap : Nat} {zs : List ByteArray} (h : IsStrs w a len cap zs) : len ≤ maxLen ∧ ∀ i, (zs.getD i ByteArray.empty).size ≤ maxLen := by
  rcases h with ⟨_, rfl, _, rfl⟩ | ⟨x, rfl, hl, hm, hz, hcell, hw⟩
  · exact ⟨by unfold maxLen; omega, fun i => by simp⟩
  · refine ⟨by omega, fun i => ?_⟩
    by_cases hi : i < zs.length
    · exact hw _ (by simp [List.getD, hi])
    · simp [List.getD, hi]

/-- What the copy 'cpU8' hands back of a slice that is not nil. -/
def cpU8Post (len : Nat) (zs : List Int) (w : World) (e : Ending) (w' : World) : Prop :=
  ∃ cs, e = .returned (.slice (some ⟨w.heap.size, 0, none⟩) len len) ∧ At w' w.heap.size 5 cs ∧ cs.size = len ∧ (∀ i, i < len → cs[i]? = some (.int .u8 (zs.getD i 0))) ∧ Below w.heap.size w w'
def cpU8Rel (len : Nat) (zs : List Int) (w : World) (i : Value) (wr : World) : Prop :=
  ∃ (k : Nat) (cs : Array Value), k ≤ len ∧ i = .int .i64 k ∧ At wr w.heap.size 5 cs ∧ cs.size = len ∧ (∀ j, j < k → cs[j]? = some (.int .u8 (zs.getD j 0))) ∧ Below w.heap.size w wr
theorem cpU8_nil (w : World) : Calls Try.prog 8 #[.slice none 0 0] w fun e w' => e = .returned (.slice none 0 0) ∧ w = w' := by
  have qT : ∀ (w : World) (a : Option Addr) (n c n' c' : Nat), (binOp .eql 22 (.slice a n c) (.slice none n' c')).run Try.prog w = .ok (.bool a.isNone) w := fun w a n c n' c' => Lib.run_eql_slice_nil w 22 5 a n c n' c' Try.underlying22
  go_enter Try.func8, Try.ntmps8
  go_wp2_with fail
  go_ret
  exact ⟨rfl, rfl⟩
set_option maxRecDepth 100000 in
set_option maxHeartbeats 1000000 in
theorem cpU8_some (x : Addr) (len cap : Nat) (zs : List Int) (w : World) (hz : len ≤ zs.length) (hcell : ∀ i, i < zs.length → w.cell? (x.add i) = some (.int .u8 (zs.getD i 0))) (hlen : len ≤ 1048576) :
    Calls Try.prog 8 #[.slice (some x) len cap] w (cpU8Post len zs w) := by
  have qT : ∀ (w : World) (a : Option Addr) (n c n' c' : Nat), (binOp .eql 22 (.slice a n c) (.slice none n' c')).run Try.prog w = .ok (.bool a.isNone) w := fun w a n c n' c' => Lib.run_eql_slice_nil w 22 5 a n c n' c' Try.underlying22
  have hmk := made (P := Try.prog) (t := 22) (e := 5) (z := .int .u8 0) (sz := 1) (by_ := 1) Try.underlying22 (by kernel_rfl) w len (by omega) (by omega)
  rw [Nat.mul_one] at hmk
  have HC := Lib.hid hcell
  clear hcell
  go_enter Try.func8, Try.ntmps8
  go_wp2_with fail
  go_loopw [4] (fun i wr => cpU8Rel len zs w i wr) (fun i _ => len - (intOf i).toNat)
  case atStart => exact ⟨0, _, Nat.zero_le _, rfl, At.new _ _ _, by simp [size_madeCells, Value.cells], fun j hj => absurd hj (by omega), (Below.refl _ _).alloc (Nat.le_refl _) _⟩
  case round =>
    obtain ⟨k, cs, hk, rfl, hat, hsz, hcs, hb⟩ := hrel
    by_cases hlt : k < len
    · have hc := HC.out k (by omega)
      obtain ⟨b, off, rfl⟩ := spot_none (HC.out 0 (by omega))
      rw [add_none] at hc
      have hc1 : wr.cell? ⟨b, off + k, none⟩ = some (.int .u8 (zs.getD k 0)) := by
        exact kept hb hc
      have hd : wr.cell? ⟨w.heap.size, k, none⟩ = some cs[k] := by rw [hat.cell k]; simp [hsz, hlt]
      have hf := hat.frozen k
      clear hc
      have HAT := Lib.hid hat
      have HCS := Lib.hid hcs
      have HSZ := Lib.hid hsz
      clear hat hcs
      go_wp2_with fail
      go_roundw
      case rel =>
        refine ⟨k + 1, _, by omega, by go_num, HAT.out.set k _, by simp [HSZ.out], ?_, hb.setCell (Nat.le_refl _) _⟩
        intro j hj
        by_cases e : j = k
        · subst e; simp [HSZ.out, hlt]
        · rw [Array.getElem?_setIfInBounds_ne (by omega)]; exact HCS.out j (by omega)
      case measure => simp [intOf]; omega
    · have e : k = len := by omega
      subst e
      have HAT := Lib.hid hat
      have HCS := Lib.hid hcs
      have HSZ := Lib.hid hsz
      clear hat hcs hsz
      go_wp2_with fail
      go_ret
      exact ⟨cs, rfl, HAT.out, HSZ.out, HCS.out, hb⟩

theorem cpU8_any (a : Option Addr) (len cap : Nat) (zs : List Int) (w : World) (h : IsRow .u8 w a len cap zs) (hlen : len ≤ 1048576) :
    Calls Try.prog 8 #[.slice a len cap] w (ClonedV len (fun i => .int .u8 (zs.getD i 0)) w) := by
  rcases h with ⟨rfl, rfl, rfl, rfl⟩ | ⟨x, rfl, hl, hm, hz, hcell, hwz⟩
  · refine (cpU8_nil w).mono ?_
    rintro e w' ⟨rfl, rfl⟩
    exact ⟨none, 0, rfl, fun h => absurd h (by omega), Below.refl _ _⟩
  · refine (cpU8_some x len cap zs w (by omega) hcell hlen).mono ?_
    rintro e w' ⟨cs, rfl, hat, hsz, hcs, hb⟩
    exact ⟨_, _, rfl, fun _ => ⟨w.heap.size, 0, rfl, fun i hi => by rw [hat.cell, Nat.zero_add]; exact hcs i hi⟩, hb⟩

set_option maxRecDepth 100000 in
theorem bytes_yes (a0 : Option Addr) (n0 c0 : Nat) (k1 : Int) (w : World) (h : n0 ≤ 1048576) :
    Calls Try.prog 18 #[.slice a0 n0 c0, .int .u8 k1] w fun e w' => e = .returned (.bool true) ∧ w = w' := by
  go_enter Try.func18, Try.ntmps18
  go_wp2_with fail
  go_ret
  exact ⟨rfl, rfl⟩
set_option maxRecDepth 100000 in
theorem bytes_any (a0 : Option Addr) (n0 c0 : Nat) (k1 : Int) (w : World) (m0 : n0 ≤ maxLen) :
    ∃ b : Bool, Calls Try.prog 18 #[.slice a0 n0 c0, .int .u8 k1] w fun e w' => e = .returned (.bool b) ∧ w = w' := by
  unfold maxLen at m0
  by_cases h : n0 ≤ 1048576
  · exact ⟨true, bytes_yes a0 n0 c0 k1 w h⟩
  · refine ⟨false, ?_⟩
    have h2 : 1048576 < n0 := by omega
    go_enter Try.func18, Try.ntmps18
    go_wp2_with fail
    go_ret
    exact ⟨rfl, rfl⟩
theorem lenOf {w : World} {a : Option Addr} {len cap : Nat} {zs : List Int} (h : IsRow .u8 w a len cap zs) : len ≤ maxLen := by
  rcases h with ⟨_, rfl, _⟩ | ⟨x, rfl, hl, hm, hz, hcell, _⟩
  · unfold maxLen; omega
  · omega
theorem bytesOf {w : World} {a : Option Addr} {len cap : Nat} {zs : List Int} (h : IsRow .u8 w a len cap zs) : ∀ i, 0 ≤ zs.getD i 0 ∧ zs.getD i 0 ≤ 255 := by
  intro i
  rcases h with ⟨_, rfl, _, rfl⟩ | ⟨x, rfl, hl, hm, hz, hcell, hw⟩
  · simp
  · by_cases hi : i < zs.length
    · exact wf_u8 (hw _ (by simp [List.getD, hi]))
    · simp [List.getD, hi]

theorem infoDs : (Try.prog.info? 67).map (fun i => (i.zero, i.size, i.bytes)) = some (some (.agg #[.nilIface, .int .i32 0, .nilIface, .int .i32 0]), 4, 48) := by kernel_rfl
def sLen : Value → Nat | .slice _ n _ => n | _ => 0
theorem ownLow {w : World} {B B' : Nat} {e : TypeId} {sz : Nat} {v : Value} {n : Nat} {xs : List Value} (h : w.ownsRow B e sz v n xs) (hb : B' ≤ B) : w.ownsRow B' e sz v n xs := by
  refine ⟨h.1, ?_⟩
  rcases h.2 with hn | ⟨g, cap, cur, rfl, h1, rest⟩
  · exact .inl hn
  · exact .inr ⟨g, cap, cur, rfl, Nat.le_trans hb h1, rest⟩
theorem VP.low {b : Nat} {L : List (Nat × Int)} {W W1 w' : World} {e : Ending} (h : VP b L W1 e w') (hb : Below W.heap.size W W1) : VP b L W e w' := by
  rcases h with ⟨h1, h2, h3⟩ | ⟨h1, h2, a, c, w1, h3, h4, h5⟩
  · exact .inl ⟨h1, h2, hb.trans (h3.mono hb.size)⟩
  · exact .inr ⟨h1, h2, a, c, w1, hb.trans (h3.mono hb.size), ownLow h4 hb.size, h5⟩
theorem dcells_len (L : List (Nat × Int)) : (dcells L).length = L.length * 4 := by
  induction L with
  | nil => rfl
  | cons p L ih => simp only [dcells, List.flatMap_cons, List.length_append, List.length_cons, List.length_nil] at ih ⊢; omega
theorem dcells_get : ∀ (L : List (Nat × Int)) (q : Nat) (p : Nat × Int), L[q]? = some p → (dcells L)[q * 4]? = some (.iface 165 (.pointer (some ⟨p.1, 0, none⟩))) ∧ (dcells L)[q * 4 + 1]? = some (.int .i32 p.2) ∧ (dcells L)[q * 4 + 2]? = some .nilIface ∧ (dcells L)[q * 4 + 3]? = some (.int .i32 0)
  | [], q, p, h => by simp at h
  | r :: L, 0, p, h => by
    simp only [List.getElem?_cons_zero, Option.some.injEq] at h
    subst h
    exact ⟨rfl, rfl, rfl, rfl⟩
  | r :: L, q + 1, p, h => by
    have ih := dcells_get L q p (by simpa using h)
    have e : dcells (r :: L) = [.iface 165 (.pointer (some ⟨r.1, 0, none⟩)), .int .i32 r.2, .nilIface, .int .i32 0] ++ dcells L := rfl
    rw [e, show (q + 1) * 4 = q * 4 + 4 from by omega]
    refine ⟨?_, ?_, ?_, ?_⟩
    · rw [List.getElem?_append_right (by simp)]; simpa using ih.1
    · rw [List.getElem?_append_right (by simp), show q * 4 + 4 + 1 - [Value.iface 165 (.pointer (some ⟨r.1, 0, none⟩)), .int .i32 r.2, .nilIface, .int .i32 0].length = q * 4 + 1 from by simp]; exact ih.2.1
    · rw [List.getElem?_append_right (by simp), show q * 4 + 4 + 2 - [Value.iface 165 (.pointer (some ⟨r.1, 0, none⟩)), .int .i32 r.2, .nilIface, .int .i32 0].length = q * 4 + 2 from by simp]; exact ih.2.2.1
    · rw [List.getElem?_append_right (by simp), show q * 4 + 4 + 3 - [Value.iface 165 (.pointer (some ⟨r.1, 0, none⟩)), .int .i32 r.2, .nilIface, .int .i32 0].length = q * 4 + 3 from by simp]; exact ih.2.2.2
theorem locs_get (L : List (Nat × Int)) (q : Nat) (p : Nat × Int) (h : L[q]? = some p) : (locs L)[q]? = some (.int .i32 p.2) := by simp [locs, h]
def one (L : List (Nat × Int)) (q : Nat) : List (Nat × Int) := match L[q]? with | some p => [p] | none => []
theorem cat_one (L : List (Nat × Int)) : ∀ k, k ≤ L.length → cat (one L) k = L.take k := by
  intro k
  induction k with
  | zero => intro _; simp [cat]
  | succ k ih =>
    intro h
    rw [cat_succ, ih (by omega), List.take_add_one]
    simp [one, List.getElem?_eq_getElem (show k < L.length by omega)]
theorem itOne {S : Nat → Prop} {w : World} (L : List (Nat × Int)) (hS : ∀ q, S q → q < w.heap.size) : ItD S w (dcells L) L.length (one L) := by
  refine ⟨dcells_len L, fun q hq => ?_⟩
  obtain ⟨p, hp⟩ : ∃ p, L[q]? = some p := ⟨_, List.getElem?_eq_getElem hq⟩
  obtain ⟨h0, h1, h2, h3⟩ := dcells_get L q p hp
  refine ⟨_, p.2, .nilIface, 0, 0, ⟨_, _, rfl⟩, .inl rfl, ?_, h0, h1, h2, h3⟩
  have e : one L q = [(p.1, p.2)] := by simp [one, hp]
  rw [e]
  exact (fiId w p.1 p.2).more (fun _ h => h.elim) hS
theorem zks {B : Nat} {S : Nat → Prop} {w : World} {ty bq : Nat} {l : Int} {k : Bool} (h : SK B S w (.iface ty (.pointer (some ⟨bq, 0, none⟩))) l k) (hB : B ≤ w.heap.size) : Calls Try.prog 10 #[.agg #[.iface ty (.pointer (some ⟨bq, 0, none⟩)), .int .i32 l]] w (SKP B k w) := by
  have H := Lib.hid (h.at (fun _ _ => rfl) hB)
  have HB := Lib.hid hB
  clear h
  go_enter Try.func10, Try.ntmps10
  go_wp2_with fail
  refine (H.out _ ((Below.refl _ _).alloc (Nat.le_refl _) _)).mono ?_
  rintro e w1 ⟨rfl, y1, y2⟩
  have HF := Lib.hid (show SKP B k w (.returned (.bool k)) w1 from SKP.trans ((Below.refl _ _).alloc (Nat.le_refl _) _) HB.out ⟨rfl, y1, y2⟩)
  clear y1 y2
  go_wp2_with fail
  go_ret
  exact HF.out
theorem zkv {S : Nat → Prop} {w : World} {b : Nat} {l : Int} {L : List (Nat × Int)} (hS : ∀ q, S q → q < w.heap.size) (h : ∀ W, (∀ b, S b → W.heap[b]? = w.heap[b]?) → Calls Try.prog 40 #[.agg #[.iface 75 (.pointer (some ⟨b, 0, none⟩)), .int .i32 l]] W (VP b L W)) : Calls Try.prog 10 #[.agg #[.iface 75 (.pointer (some ⟨b, 0, none⟩)), .int .i32 l]] w (VP b L w) := by
  have H := Lib.hid (fun o => (h (w.alloc o) (fun q hq => Below.heap_alloc w o q (hS q hq))))
  clear h
  go_enter Try.func10, Try.ntmps10
  go_wp2_with fail
  refine (H.out _).mono ?_
  intro e w1 hv
  have hv2 := VP.low hv ((Below.refl _ _).alloc (Nat.le_refl _) _)
  clear hv
  have HV := Lib.hid hv2
  rcases hv2 with ⟨h1, rfl, h3⟩ | ⟨h1, rfl, h3⟩
  all_goals
    clear h1 h3
    go_wp2_with fail
    go_ret
    exact HV.out
/-- The loop that decodes the declarations. -/
structure DX (base Q n cap : Nat) (a : Option Addr) (zs : List Int) (w : World) (j p g c : Nat) (l : Int) (xs : List Value) (Ls : Nat → List (Nat × Int)) (S : Nat → Prop) (ia : Option Addr) (ic : Nat) (wr : World) : Prop where
  q : QN wr Q a n cap p l (.slice ia (cat Ls j).length ic)
  own : wr.ownsRow (Q + 1) 67 4 (.slice (some ⟨g, 0, none⟩) j c) j xs
  it : ItD S wr xs j Ls
  val : ∀ q, q < j → ∃ t b, xs[q * 4 + 2]? = some (.iface t (.pointer (some ⟨b, 0, none⟩)))
  s : ∀ q, S q → Q + 1 ≤ q ∧ q < wr.heap.size
  ng : ¬ S g
  ids : wr.ownsRow base 21 1 (.slice ia (cat Ls j).length ic) (cat Ls j).length (locs (cat Ls j))
  dis : ∀ k, (Value.slice ia (cat Ls j).length ic).ownBlock = some k → ¬ S k
  gr : Below base w wr
  ops : Ops base wr a n zs
def DR (base Q n cap : Nat) (a : Option Addr) (zs : List Int) (w : World) (s : Value) (wr : World) : Prop :=
  ∃ (j p g c : Nat) (l : Int) (xs : List Value) (Ls : Nat → List (Nat × Int)) (S : Nat → Prop) (ia : Option Addr) (ic : Nat), s = .slice (some ⟨g, 0, none⟩) j c ∧ p ≤ n ∧ j ≤ p ∧ (cat Ls j).length ≤ p ∧ Hid (DX base Q n cap a zs w j p g c l xs Ls S ia ic wr)
theorem stepD {base Q n cap j p g c p2 g' c' ty bq bn ic ic2 : Nat} {l2 l lp : Int} {a ia ia2 : Option Addr} {zs : List Int} {xs : List Value} {Ls : Nat → List (Nat × Int)} {L2 : List (Nat × Int)} {S S2 : Nat → Prop} {w wr w2 V w3 : World}
    (hbw : base ≤ w.heap.size) (hbQ : base ≤ Q) (hp3 : p < p2) (hp4 : p2 ≤ n) (hjp : j ≤ p) (hlen : (cat Ls j).length ≤ p)
    (H : DX base Q n cap a zs w j p g c lp xs Ls S ia ic wr)
    (hfi : FI S2 w2 (.iface ty (.pointer (some ⟨bq, 0, none⟩))) l L2) (hS2 : ∀ q, S2 q → wr.heap.size ≤ q) (hL2 : L2.length ≤ p2 - p) (hQ2 : QN w2 Q a n cap p2 l2 (.slice ia2 ((cat Ls j).length + L2.length) ic2)) (hid2 : w2.ownsRow base 21 1 (.slice ia2 ((cat Ls j).length + L2.length) ic2) ((cat Ls j).length + L2.length) (locs (cat Ls j) ++ locs L2)) (hg2 : Gr2 Q (Value.slice ia (cat Ls j).length ic).ownBlock wr w2) (hd2 : ∀ k, (Value.slice ia2 ((cat Ls j).length + L2.length) ic2).ownBlock = some k → ¬ S2 k) (hli2 : Lies (.slice ia (cat Ls j).length ic) (.slice ia2 ((cat Ls j).length + L2.length) ic2) wr)
    (hV : Below w2.heap.size w2 V) (ho3 : w3.ownsRow (Q + 1) 67 4 (.slice (some ⟨g', 0, none⟩) (j + 1) c') (j + 1) (xs ++ [.iface ty (.pointer (some ⟨bq, 0, none⟩)), .int .i32 l, .iface 169 (.pointer (some ⟨bn, 0, none⟩)), .int .i32 l])) (hg3 : V.grownBy w3 (some g)) (hlie : some g = some g' ∨ g' = V.heap.size) :
    DR base Q n cap a zs w (.slice (some ⟨g', 0, none⟩) (j + 1) c') w3 := by
  have zg := World.ownsRow.lt H.own g rfl
  have z1 := H.gr.size
  have z2 := hg2.size
  have zV := hV.size
  have z3 := hg3.size
  have lQ := H.q.lt
  have K2 : ∀ q, q < wr.heap.size → q ≠ Q → (Value.slice ia (cat Ls j).length ic).ownBlock ≠ some q → w2.heap[q]? = wr.heap[q]? := fun q hq h1 h2 => hg2.block q hq h1 h2
  have K3 : ∀ q, q < w2.heap.size → q ≠ g → w3.heap[q]? = w2.heap[q]? := fun q hq hg => (hg3.block q (by omega) (by simp; omega)).trans (hV.block q hq)
  have S2lt := hfi.1
  have ng1 : (Value.slice ia (cat Ls j).length ic).ownBlock ≠ some g := ownNe H.own H.ids (by decide) rfl
  have HW2 : w2.ownsRow (Q + 1) 67 4 (.slice (some ⟨g, 0, none⟩) j c) j xs := ownKeep H.own (fun k hk => by simp only [Value.ownBlock, Option.some.injEq] at hk; subst hk; exact K2 _ zg.2 (by omega) ng1)
  have ng2 : (Value.slice ia2 ((cat Ls j).length + L2.length) ic2).ownBlock ≠ some g := ownNe HW2 hid2 (by decide) rfl
  have GV : Below base wr w3 := by
    have g1 : Gr2 Q (Value.slice ia (cat Ls j).length ic).ownBlock wr V := hg2.trans (Gr2.below (r := none) hV) (fun k hk => by cases hk)
    exact (g1.bel (by omega) hbQ (fun k hk => (World.ownsRow.lt H.ids k hk).1)).trans (gBelow hg3 (by omega) (fun k hk => by simp only [Option.some.injEq] at hk; omega))
  have e1 : (cat (fun q => if q = j then L2 else Ls q) (j + 1)).length = (cat Ls j).length + L2.length := by rw [cat_snoc, List.length_append]
  have lx := H.it.1
  refine ⟨j + 1, p2, g', c', l2, xs ++ [.iface ty (.pointer (some ⟨bq, 0, none⟩)), .int .i32 l, .iface 169 (.pointer (some ⟨bn, 0, none⟩)), .int .i32 l], fun q => if q = j then L2 else Ls q, fun q => S q ∨ S2 q, ia2, ic2, rfl, by omega, by omega, by rw [cat_snoc]; simp; omega, Lib.hid ⟨?_, ho3, ?_, ?_, ?_, ?_, ?_, ?_, H.gr.trans GV, H.ops.keep GV⟩⟩
  · rw [e1]; exact (K3 Q hQ2.lt (by omega)).trans hQ2
  · have bnd : ∀ q, (S q ∨ S2 q) → q < w3.heap.size := fun q hq => by
      rcases hq with hq | hq
      · have := H.s q hq; omega
      · have := S2lt q hq; omega
    refine ItD.snoc ((H.it.keep (by omega) (fun q hq => ?_)).more (fun _ h => .inl h) bnd) _ _ _ _ 0 _ ⟨_, _, rfl⟩ (.inr ⟨_, _, rfl⟩) ((hfi.keep (by omega) (fun q hq => ?_)).more (fun _ h => .inr h) bnd)
    · have h := H.s q hq
      exact (K3 q (by omega) (fun e => H.ng (e ▸ hq))).trans (K2 q h.2 (by omega) (fun e => H.dis q e hq))
    · exact K3 q (S2lt q hq) (by have := hS2 q hq; omega)
  · intro q hq
    by_cases e : q = j
    · subst e
      exact ⟨169, bn, by rw [List.getElem?_append_right (by omega), lx]; simp⟩
    · obtain ⟨t, b, hb⟩ := H.val q (by omega)
      exact ⟨t, b, by rw [List.getElem?_append_left (by omega)]; exact hb⟩
  · intro q hq
    rcases hq with hq | hq
    · have := H.s q hq; omega
    · have := S2lt q hq; have := hS2 q hq; omega
  · intro hq
    rcases hlie with h | h
    · simp only [Option.some.injEq] at h
      subst h
      rcases hq with hq | hq
      · exact H.ng hq
      · have := hS2 _ hq; omega
    · subst h
      rcases hq with hq | hq
      · have := (H.s _ hq).2; omega
      · have := S2lt _ hq; omega
  · rw [e1]
    have h := ownKeep (w' := w3) hid2 (fun k hk => K3 k (ownLt hid2 k hk) (fun e => ng2 (e ▸ hk)))
    rw [cat_snoc, locs_app]
    exact h
  · intro k hk hs
    rw [e1] at hk
    rcases hs with hs | hs
    · exact Lies.not hli2 (fun q hq => (H.s q hq).2) H.dis k hk hs
    · exact hd2 k hk hs
/-- The loop that gathers the locations. -/
def FR (J : Nat) (xs : List Value) (W : World) (s i : Value) (wr : World) : Prop :=
  ∃ (k g c : Nat) (fs : List Value), k ≤ J ∧ i = .int .i64 k ∧ s = .slice (some ⟨g, 0, none⟩) k c ∧ Hid (wr.ownsRow W.heap.size 21 1 (.slice (some ⟨g, 0, none⟩) k c) k fs) ∧ Hid (∀ q, q < k → fs[q]? = xs[q * 4 + 1]?) ∧ Hid (Below W.heap.size W wr)
def QR (n : Nat) (W : World) (i : Value) (wr : World) : Prop := ∃ k : Nat, k ≤ n ∧ i = .int .i64 k ∧ Hid (Below W.heap.size W wr)
/-- What the law knows behind the two loops and the node: the local at X, the statement's cell M. -/
structure GX (base Q n cap X M : Nat) (a : Option Addr) (j p g c fg fc : Nat) (l kd : Int) (xs fs : List Value) (Ls : Nat → List (Nat × Int)) (S : Nat → Prop) (ia : Option Addr) (ic : Nat) (W : World) : Prop where
  q : QN W Q a n cap p l (.slice ia (cat Ls j).length ic)
  own : W.ownsRow (Q + 1) 67 4 (.slice (some ⟨g, 0, none⟩) j c) j xs
  it : ItD S W xs j Ls
  val : ∀ q, q < j → ∃ t b, xs[q * 4 + 2]? = some (.iface t (.pointer (some ⟨b, 0, none⟩)))
  s : ∀ q, S q → Q + 1 ≤ q ∧ q < X
  ng : ¬ S g
  gx : g < X
  ids : W.ownsRow 0 21 1 (.slice ia (cat Ls j).length ic) (cat Ls j).length (locs (cat Ls j))
  ix : ∀ k, (Value.slice ia (cat Ls j).length ic).ownBlock = some k → k < X
  fo : W.ownsRow (Q + 1) 21 1 (.slice (some ⟨fg, 0, none⟩) j fc) j fs
  fx : fg < X
  fe : ∀ q, q < j → fs[q]? = xs[q * 4 + 1]?
  x : At W X 77 #[.slice (some ⟨g, 0, none⟩) j c, .int .u8 kd, .bool false, .bool false]
  m : At W M 33 #[.iface 75 (.pointer (some ⟨X, 0, none⟩)), .int .i32 1048576]
  xm : X < M
  qx : Q < X
theorem GX.below {base Q n cap X M : Nat} {a : Option Addr} {j p g c fg fc : Nat} {l kd : Int} {xs fs : List Value} {Ls : Nat → List (Nat × Int)} {S : Nat → Prop} {ia : Option Addr} {ic : Nat} {W W' : World} (h : GX base Q n cap X M a j p g c fg fc l kd xs fs Ls S ia ic W) (hb : Below W.heap.size W W') : GX base Q n cap X M a j p g c fg fc l kd xs fs Ls S ia ic W' :=
  ⟨At.below h.q hb h.q.lt, ownKeep h.own (fun k hk => hb.block k (ownLt h.own k hk)), h.it.keep hb.size (fun q hq => hb.block q (by have := (h.s q hq).2; have := h.x.lt; omega)), h.val, h.s, h.ng, h.gx, ownKeep h.ids (fun k hk => hb.block k (ownLt h.ids k hk)), h.ix, ownKeep h.fo (fun k hk => hb.block k (ownLt h.fo k hk)), h.fx, h.fe, h.x.below hb h.x.lt, h.m.below hb h.m.lt, h.xm, h.qx⟩
theorem toGX {base Q n cap X M : Nat} {a : Option Addr} {zs : List Int} {j p g c fg fc : Nat} {l kd : Int} {xs fs : List Value} {Ls : Nat → List (Nat × Int)} {S : Nat → Prop} {ia : Option Addr} {ic : Nat} {w wq W : World} (H : DX base Q n cap a zs w j p g c l xs Ls S ia ic wq) (hb : Below wq.heap.size wq W) (hX : wq.heap.size ≤ X) (fo : W.ownsRow wq.heap.size 21 1 (.slice (some ⟨fg, 0, none⟩) j fc) j fs) (fx : fg < X) (fe : ∀ q, q < j → fs[q]? = xs[q * 4 + 1]?) (x : At W X 77 #[.slice (some ⟨g, 0, none⟩) j c, .int .u8 kd, .bool false, .bool false]) (m : At W M 33 #[.iface 75 (.pointer (some ⟨X, 0, none⟩)), .int .i32 1048576]) (xm : X < M) : GX base Q n cap X M a j p g c fg fc l kd xs fs Ls S ia ic W :=
  ⟨At.below H.q hb H.q.lt, ownKeep H.own (fun k hk => hb.block k (ownLt H.own k hk)), H.it.keep hb.size (fun q hq => hb.block q (H.s q hq).2), H.val, fun q hq => ⟨(H.s q hq).1, Nat.lt_of_lt_of_le (H.s q hq).2 hX⟩, H.ng, Nat.lt_of_lt_of_le (World.ownsRow.lt H.own g rfl).2 hX, ownLow (ownKeep H.ids (fun k hk => hb.block k (ownLt H.ids k hk))) (Nat.zero_le _), fun k hk => Nat.lt_of_lt_of_le (ownLt H.ids k hk) hX, ownLow fo H.q.lt, fx, fe, x, m, xm, Nat.lt_of_lt_of_le H.q.lt hX⟩
/-- Behind a call that has rewritten the declarations. -/
structure HX (Q n cap X M : Nat) (a : Option Addr) (p : Nat) (l : Int) (L : List (Nat × Int)) (ia : Option Addr) (ic : Nat) (g c : Nat) (W : World) : Prop where
  q : QN W Q a n cap p l (.slice ia L.length ic)
  ids : W.ownsRow 0 21 1 (.slice ia L.length ic) L.length (locs L)
  ix : ∀ k, (Value.slice ia L.length ic).ownBlock = some k → k < X
  own : W.ownsRow (M + 1) 67 4 (.slice (some ⟨g, 0, none⟩) L.length c) L.length (dcells L)
  x : At W X 77 #[.slice (some ⟨g, 0, none⟩) L.length c, .int .u8 0, .bool false, .bool false]
  m : At W M 33 #[.iface 75 (.pointer (some ⟨X, 0, none⟩)), .int .i32 1048576]
  xm : X < M
  qx : Q < X
theorem HX.below {Q n cap X M : Nat} {a : Option Addr} {p : Nat} {l : Int} {L : List (Nat × Int)} {ia : Option Addr} {ic g c : Nat} {W W' : World} (h : HX Q n cap X M a p l L ia ic g c W) (hb : Below W.heap.size W W') : HX Q n cap X M a p l L ia ic g c W' :=
  ⟨At.below h.q hb h.q.lt, ownKeep h.ids (fun k hk => hb.block k (ownLt h.ids k hk)), h.ix, ownKeep h.own (fun k hk => hb.block k (ownLt h.own k hk)), h.x.below hb h.x.lt, h.m.below hb h.m.lt, h.xm, h.qx⟩
/-- The first call rewrites. -/
theorem toHX {base Q n cap X M : Nat} {a : Option Addr} {j p g c fg fc : Nat} {l : Int} {xs fs : List Value} {Ls : Nat → List (Nat × Int)} {S : Nat → Prop} {ia a' : Option Addr} {ic c' : Nat} {W w1 : World} (h : GX base Q n cap X M a j p g c fg fc l 0 xs fs Ls S ia ic W) (hne : cat Ls j ≠ []) (hb : Below W.heap.size W w1) (ho : w1.ownsRow W.heap.size 67 4 (.slice a' (cat Ls j).length c') (cat Ls j).length (dcells (cat Ls j))) :
    ∃ g2, a' = some ⟨g2, 0, none⟩ ∧ HX Q n cap X M a p l (cat Ls j) ia ic g2 c' (w1.setCell ⟨X, 0, none⟩ (.slice (some ⟨g2, 0, none⟩) (cat Ls j).length c')) := by
  obtain ⟨a2, c2, e2, hg⟩ := ownRead ho (by omega)
  simp only [Value.slice.injEq] at e2
  obtain ⟨rfl, _, rfl⟩ := e2
  obtain ⟨g2, rfl, _⟩ := hg (by cases hL : cat Ls j with | nil => exact absurd hL hne | cons => simp)
  have zg := World.ownsRow.lt ho g2 rfl
  have hX := h.x.lt
  have hM := h.m.lt
  have h1 := h.xm
  have K : ∀ q, q < W.heap.size → q ≠ X → (w1.setCell ⟨X, 0, none⟩ (.slice (some ⟨g2, 0, none⟩) (cat Ls j).length c')).heap[q]? = W.heap[q]? := fun q hq hn => (Below.heap_setCell w1 ⟨X, 0, none⟩ _ q (by simpa using hn)).trans (hb.block q hq)
  refine ⟨g2, rfl, ⟨?_, ownKeep h.ids (fun k hk => K k (ownLt h.ids k hk) (by have := h.ix k hk; omega)), h.ix, ?_, ?_, (K M hM (by omega)).trans h.m, h.xm, h.qx⟩⟩
  · exact (K Q h.q.lt (by have := h.qx; omega)).trans h.q
  · exact ownLow (ownKeep ho (fun k hk => by
      simp only [Value.ownBlock, Option.some.injEq] at hk
      subst hk
      exact Below.heap_setCell w1 ⟨X, 0, none⟩ _ g2 (by simp; omega))) (by omega)
  · have h2 := (h.x.below hb hX).set 0 (.slice (some ⟨g2, 0, none⟩) (cat Ls j).length c')
    simpa using h2
theorem againHX {Q n cap X M : Nat} {a : Option Addr} {p : Nat} {l : Int} {L : List (Nat × Int)} {ia a' : Option Addr} {ic g c c' : Nat} {W w1 : World} (h : HX Q n cap X M a p l L ia ic g c W) (hne : L ≠ []) (hb : Below W.heap.size W w1) (ho : w1.ownsRow W.heap.size 67 4 (.slice a' L.length c') L.length (dcells L)) :
    ∃ g2, a' = some ⟨g2, 0, none⟩ ∧ HX Q n cap X M a p l L ia ic g2 c' (w1.setCell ⟨X, 0, none⟩ (.slice (some ⟨g2, 0, none⟩) L.length c')) := by
  obtain ⟨a2, c2, e2, hg⟩ := ownRead ho (by omega)
  simp only [Value.slice.injEq] at e2
  obtain ⟨rfl, _, rfl⟩ := e2
  obtain ⟨g2, rfl, _⟩ := hg (by cases L with | nil => exact absurd rfl hne | cons => simp)
  have zg := World.ownsRow.lt ho g2 rfl
  have hX := h.x.lt
  have hM := h.m.lt
  have h1 := h.xm
  have K : ∀ q, q < W.heap.size → q ≠ X → (w1.setCell ⟨X, 0, none⟩ (.slice (some ⟨g2, 0, none⟩) L.length c')).heap[q]? = W.heap[q]? := fun q hq hn => (Below.heap_setCell w1 ⟨X, 0, none⟩ _ q (by simpa using hn)).trans (hb.block q hq)
  refine ⟨g2, rfl, ⟨?_, ownKeep h.ids (fun k hk => K k (ownLt h.ids k hk) (by have := h.ix k hk; omega)), h.ix, ?_, ?_, (K M hM (by omega)).trans h.m, h.xm, h.qx⟩⟩
  · exact (K Q h.q.lt (by have := h.qx; omega)).trans h.q
  · exact ownLow (ownKeep ho (fun k hk => by
      simp only [Value.ownBlock, Option.some.injEq] at hk
      subst hk
      exact Below.heap_setCell w1 ⟨X, 0, none⟩ _ g2 (by simp; omega))) (by omega)
  · have h2 := (h.x.below hb hX).set 0 (.slice (some ⟨g2, 0, none⟩) L.length c')
    simpa using h2

def MX (w : World) (e : Ending) (w' : World) : Prop := e = .returned (.bool true) ∧ Below w.heap.size w w'
set_option maxRecDepth 100000 in
set_option maxHeartbeats 16000000 in
theorem walk (a0 : Option Addr) (len0 cap0 : Nat) (z0 : List Int) (a1 : Int) (w : World) (w0 : IsRow .u8 w a0 len0 cap0 z0) (w1' : (Lit.int .u8 a1).wf = true) :
    Calls Try.prog 6 #[.slice a0 len0 cap0, .int .u8 a1] w fun e w' => e = .returned (.bool true) ∧ Below w.heap.size w w' := by
  obtain ⟨b0, b1⟩ := wf_u8 w1'
  clear w1'
  by_cases s0 : len0 ≤ 4096
  · have HW := Lib.hid w0
    have HZ := Lib.hid (bytesOf w0)
    clear w0
    obtain ⟨iD, hi1, hy0, hy1, hy2⟩ := info_parts infoDs
    have ID := Lib.hid hi1
    have ID0 := Lib.hid hy0
    have ID1 := Lib.hid hy1
    have ID2 := Lib.hid hy2
    have hbm : iD.bytes * len0 ≤ 281474976710656 := by rw [hy2]; omega
    clear hi1 hy0 hy1 hy2
    obtain ⟨iI, hi3, ht0, ht1, ht2⟩ := info_parts infoI
    have II := Lib.hid hi3
    have II0 := Lib.hid ht0
    have II1 := Lib.hid ht1
    have II2 := Lib.hid ht2
    clear hi3 ht0 ht1 ht2
    go_enter Try.func6, Try.ntmps6
    go_wp2_with fail
    refine (bytes_yes _ _ _ _ _ (by omega)).mono ?_
    rintro e w' ⟨rfl, rfl⟩
    go_wp2_with fail
    refine (cpU8_any a0 len0 cap0 z0 w HW.out (by omega)).mono ?_
    rintro e w1 ⟨a1', c1, rfl, hrow, hb⟩
    have HO := Lib.hid (show Ops w1.heap.size w1 a1' len0 z0 from fun hp => by
      obtain ⟨B, off, e, hc⟩ := hrow hp
      exact ⟨B, off, e, World.block_lt_of_cell? _ _ (hc 0 hp), hc⟩)
    have HB := Lib.hid hb
    have zz1 := hb.size
    clear hrow hb HW
    go_wp2_with (with_reducible refine wpList_make_own _ (o := ⟨some 32, _, _, _, _, _⟩) rfl _ _ 64 rfl (w1.heap.size + 1) 67 iD _ 4 Try.underlying64 ID.out ID0.out ID1.out .i64 .i64 _ len0 rfl rfl ?e1 ?e2 ?e3 ?e4 ?_)
    try (case e1 => first | rfl | omega | (simp; omega))
    try (case e2 => exact hbm)
    try (case e3 => unfold maxLen; omega)
    try (case e4 => simp)
    intro w2 hown hgr
    have zz2 := hgr.size
    simp at zz2
    have KY : ∀ q, q < w1.heap.size + 1 → w2.heap[q]? = (w1.alloc (.cells #[.slice a1' len0 c1, .int .i64 0, .int .i32 0, .slice none 0 0] 71)).heap[q]? := fun q hq => hgr.block q (by simpa using hq) (by simp)
    have G0 : Below w1.heap.size w1 w2 := ((Below.refl _ _).alloc (Nat.le_refl _) _).trans (gBelow hgr (by simp) (fun k hk => by cases hk))
    have ST := Lib.hid (show DR w1.heap.size w1.heap.size len0 c1 a1' z0 w1 (.slice (some ⟨w1.heap.size + 1, 0, none⟩) 0 len0) w2 from ⟨0, 0, w1.heap.size + 1, len0, 0, [], fun _ => [], fun _ => False, none, 0, rfl, Nat.zero_le _, Nat.le_refl _, by simp [cat], Lib.hid ⟨(KY _ (by omega)).trans (At.new w1 71 _), hown, ⟨rfl, fun q hq => absurd hq (by omega)⟩, fun q hq => absurd hq (by omega), fun q hq => hq.elim, fun h => h, own0 _ _ _ _, fun _ _ h => h, G0, HO.out.keep G0⟩⟩)
    clear hown hgr KY G0
    go_wp2_with fail
    go_loopw [6] (fun s wr => DR w1.heap.size w1.heap.size len0 c1 a1' z0 w1 s wr) (fun s _ => len0 - sLen s)
    case atStart => exact ST.out
    case round =>
      clear ST
      obtain ⟨j, p, g, c, lp, xs, Ls, S, ia, ic, rfl, hp, hjp, hlen, H⟩ := hrel
      have u0 : wr.cell? ⟨w1.heap.size, 0, none⟩ = some (.slice a1' len0 c1) := by rw [H.out.q.cell]; rfl
      have u1 : wr.cell? ⟨w1.heap.size, 1, none⟩ = some (.int .i64 p) := by rw [H.out.q.cell]; rfl
      have lqr := H.out.q.lt
      have e0 : (0 : Int) ≤ (p : Int) := Int.natCast_nonneg _
      by_cases hpn : p < len0
      · have d2 : decide ((p : Int) < (len0 : Int)) = true := by simp; omega
        have hpn' : (p : Int) < (len0 : Int) := by omega
        go_wp2_with fail
        go_quiet (fail)
        obtain ⟨wq, hwq⟩ : ∃ W, W = wr.drewN nq := ⟨_, rfl⟩
        have HX1 := Lib.hid (show DX w1.heap.size w1.heap.size len0 c1 a1' z0 w1 j p g c lp xs Ls S ia ic wq from by rw [hwq]; exact ⟨H.out.q, H.out.own, H.out.it, H.out.val, H.out.s, H.out.ng, H.out.ids, H.out.dis, below_drewN H.out.gr _, H.out.ops⟩)
        rw [← hwq]
        clear hwq H u0 u1 lqr
        have zg := World.ownsRow.lt HX1.out.own g rfl
        have zr := HX1.out.gr.size
        go_wp2_with fail
        refine (bd w1.heap.size len0 c1 w1.heap.size a1' z0 s0 HZ.out (Nat.le_refl _) len0 p lp wq ia ic (cat Ls j).length (locs (cat Ls j)) (by omega) hpn HX1.out.q HX1.out.ids HX1.out.ops (by omega)).mono ?_
        rintro e w3 ⟨d, l, p2, l2, S2, L2, ia2, ic2, rfl, ⟨ty, bq, rfl⟩, hfi, hS2, hp3, hp4, hL2, hQ2, hid2, hg2, hd2, hli2⟩
        have z3 := hg2.size
        have nqg : ∀ k, (Value.slice ia (cat Ls j).length ic).ownBlock = some k → k ≠ g := fun k hk e => ownNe HX1.out.own HX1.out.ids (by decide) rfl (e ▸ hk)
        have OWN2 := Lib.hid (show w3.ownsRow (w1.heap.size + 1) 67 4 (.slice (some ⟨g, 0, none⟩) j c) j xs from ownKeep HX1.out.own (fun k hk => by simp only [Value.ownBlock, Option.some.injEq] at hk; subst hk; exact hg2.block _ zg.2 (by omega) (fun e => nqg _ e rfl)))
        have STEP := Lib.hid (show ∀ (bn : Nat) (V w4 : World) (g' c' : Nat), Below w3.heap.size w3 V → w4.ownsRow (w1.heap.size + 1) 67 4 (.slice (some ⟨g', 0, none⟩) (j + 1) c') (j + 1) (xs ++ [.iface ty (.pointer (some ⟨bq, 0, none⟩)), .int .i32 l, .iface 169 (.pointer (some ⟨bn, 0, none⟩)), .int .i32 l]) → V.grownBy w4 (some g) → (some g = some g' ∨ g' = V.heap.size) → DR w1.heap.size w1.heap.size len0 c1 a1' z0 w1 (.slice (some ⟨g', 0, none⟩) (j + 1) c') w4 from fun bn V w4 g' c' hV ho3 hg3 hlie => stepD (V := V) (w3 := w4) (g' := g') (c' := c') (Nat.le_refl _) (Nat.le_refl _) hp3 hp4 hjp hlen HX1.out hfi hS2 hL2 hQ2 hid2 hg2 hd2 hli2 hV ho3 hg3 hlie)
        have B1 : j + 1 ≤ maxLen := by unfold maxLen; omega
        have B2 : (j + 1) * 48 ≤ 140737488355328 := by omega
        clear hfi hS2 hL2 hQ2 hid2 hg2 hd2 hli2 HX1 nqg hlen
        go_wp2_with fail
        obtain ⟨W, hW⟩ : ∃ W, W = w3.alloc (.cells #[.iface ty (.pointer (some ⟨bq, 0, none⟩)), .int .i32 l] 44) := ⟨_, rfl⟩
        rw [← hW]
        have OWN := Lib.hid (show W.ownsRow (w1.heap.size + 1) 67 4 (.slice (some ⟨g, 0, none⟩) j c) j xs from by rw [hW]; exact OWN2.out.alloc _)
        have x0 : W.cell? ⟨w3.heap.size, 0, none⟩ = some (.iface ty (.pointer (some ⟨bq, 0, none⟩))) := by rw [hW, (At.new w3 44 #[.iface ty (.pointer (some ⟨bq, 0, none⟩)), .int .i32 l]).cell]; rfl
        have x1 : W.cell? ⟨w3.heap.size, 1, none⟩ = some (.int .i32 l) := by rw [hW, (At.new w3 44 #[.iface ty (.pointer (some ⟨bq, 0, none⟩)), .int .i32 l]).cell]; rfl
        have zW : w3.heap.size + 1 ≤ W.heap.size := by rw [hW]; simp
        have HBW := Lib.hid (show Below w3.heap.size w3 W from by rw [hW]; exact (Below.refl _ _).alloc (Nat.le_refl _) _)
        clear hW OWN2
        go_region_held3 (fun w' => w'.cell? ⟨w3.heap.size, 0, none⟩ = some (.iface ty (.pointer (some ⟨bq, 0, none⟩))) ∧ w'.cell? ⟨w3.heap.size, 1, none⟩ = some (.int .i32 l)) (repeat' (first | (refine And.intro ?_ ?_) | with_reducible assumption | apply kAlloc | apply kDrew)) (first
          | (go_at_call 20; (with_reducible refine Calls.mono (bNum l _) ?_); rintro e Y ⟨bn, rfl, hAn, hbn, hwn⟩; have s0 := kept hwn x0; have s1 := kept hwn x1; have OY : Y.ownsRow (w1.heap.size + 1) 67 4 (.slice (some ⟨g, 0, none⟩) j c) j xs := (ownKeep OWN.out (fun k hk => hwn.block k (ownLt OWN.out k hk))); have zY := hwn.size; simp at zY)
          | (refine step_append_lies _ (by rfl) _ _ _ (by rfl) (w1.heap.size + 1) 67 iD _ 4 48 Try.underlying64 ID.out ID0.out ID1.out ID2.out rfl (by omega) (.slice (some ⟨g, 0, none⟩) j c) j xs (by rfl) (OY.alloc _) ⟨Y.heap.size, 0, none⟩ 1 1 [.iface ty (.pointer (some ⟨bq, 0, none⟩)), .int .i32 l, .iface 169 (.pointer (some ⟨bn, 0, none⟩)), .int .i32 l] (by rfl) (by rfl) (World.news_of_block (cs := #[.iface ty (.pointer (some ⟨bq, 0, none⟩)), .int .i32 l, .iface 169 (.pointer (some ⟨bn, 0, none⟩)), .int .i32 l]) (t := 67) (fr := (0, 0)) (heap_alloc_new Y _)) (by simp [Value.oneCell']) (by omega) B1 B2 (by simp; omega) (Y.heap.size + 1) (by simp) ?_; intro g' c' w4 ho3 hg3 hlie hlt3; have y0 := hg3.cell (kAlloc s0) (by simp [Value.ownBlock]; omega); have y1 := hg3.cell (kAlloc s1) (by simp [Value.ownBlock]; omega)))
        all_goals
          have DA1 := Lib.hid (STEP.out _ (Y.alloc _) w4 g' c' ((HBW.out.drew.trans (hwn.mono (by simp; omega))).alloc (by omega) _) ho3 hg3 (by simpa [Value.ownBlock] using hlie))
          clear ho3 hg3 hlie STEP OWN OY hwn y0 y1 s0 s1 x0 x1 hAn
          go_wp2_with fail
          go_roundw
          case measure => simp [sLen]; omega
          case rel => exact DA1.out
      · have d2 : decide ((p : Int) < (len0 : Int)) = false := by simp; omega
        have hpn' : ¬ ((p : Int) < (len0 : Int)) := by omega
        have hbj : iI.bytes * j ≤ 281474976710656 := by rw [II2.out]; omega
        go_wp2_with fail
        go_quiet (fail)
        obtain ⟨wq, hwq⟩ : ∃ W, W = wr.drewN nq := ⟨_, rfl⟩
        have HX1 := Lib.hid (show DX w1.heap.size w1.heap.size len0 c1 a1' z0 w1 j p g c lp xs Ls S ia ic wq from by rw [hwq]; exact ⟨H.out.q, H.out.own, H.out.it, H.out.val, H.out.s, H.out.ng, H.out.ids, H.out.dis, below_drewN H.out.gr _, H.out.ops⟩)
        rw [← hwq]
        clear hwq H u0 u1 lqr d2 hpn'
        have B5 := Lib.hid (show ∀ w5 : World, wq.grownBy w5 none → Below wq.heap.size wq w5 from fun w5 h => gBelow h (Nat.le_refl _) (fun k hk => by cases hk))
        go_wp2_with (with_reducible refine wpList_make_own _ (o := ⟨some 56, _, _, _, _, _⟩) rfl _ _ 45 rfl wq.heap.size 21 iI _ 1 Try.underlying45 II.out II0.out II1.out .i64 .i64 _ j rfl rfl ?f1 ?f2 ?f3 (Nat.le_refl _) ?_)
        try (case f1 => first | rfl | omega | (simp; omega))
        try (case f2 => exact hbj)
        try (case f3 => unfold maxLen; omega)
        intro w5 hown hgr
        have ST := Lib.hid (show FR j xs wq (.slice (some ⟨wq.heap.size, 0, none⟩) 0 j) (.int .i64 0) w5 from ⟨0, wq.heap.size, j, [], Nat.zero_le _, rfl, rfl, Lib.hid hown, Lib.hid (fun q hq => absurd hq (by omega)), Lib.hid (B5.out w5 hgr)⟩)
        clear hown hgr B5
        go_wp2_with fail
        go_loopw [8, 9] (fun s i wr => FR j xs wq s i wr) (fun _ i _ => j - (intOf i).toNat)
        case atStart => exact ST.out
        case round =>
          clear ST
          obtain ⟨k, fg, fc, fs, hkj, rfl, rfl, HF, HE, HG⟩ := hrel
          by_cases hlt : k < j
          · obtain ⟨d, l, dv, e1, e2, hd, hn, hfi, y0, y1, y2, y3⟩ := HX1.out.it.2 k hlt
            have c1' : wr.cell? ⟨g, k * 4 + 1, none⟩ = some (.int .i32 l) := kept HG.out (by rw [World.ownsRow.cellAt HX1.out.own _ (by omega)]; exact y1)
            have lg : g < wr.heap.size := World.block_lt_of_cell? _ _ c1'
            have k0 : (0 : Int) ≤ (k : Int) := Int.natCast_nonneg _
            have k1 : (k : Int) < (j : Int) := by omega
            have OWN := Lib.hid (show ∀ o, (wr.alloc o).ownsRow wq.heap.size 21 1 (.slice (some ⟨fg, 0, none⟩) k fc) k fs from fun o => HF.out.alloc o)
            have NEW := Lib.hid (show ∀ q u, ([.int .i32 l] : List Value)[q]? = some u → (wr.alloc (.cells #[.int .i32 l] 21)).cell? ((⟨wr.heap.size, 0, none⟩ : Addr).add q) = some u from World.news_of_block (cs := #[.int .i32 l]) (t := 21) (fr := (0, 0)) (heap_alloc_new wr _))
            have ONE := Lib.hid (show ∀ u ∈ ([.int .i32 l] : List Value), u.oneCell' = true from by simp [Value.oneCell'])
            have zf := World.ownsRow.lt HF.out fg rfl
            have zr2 := HG.out.size
            have lfs : fs.length = k := by have h := HF.out.1; simpa using h
            have HE1 := Lib.hid (show ∀ q, q < k + 1 → (fs ++ [.int .i32 l])[q]? = xs[q * 4 + 1]? from fun q hq => by
              by_cases e : q = k
              · subst e
                rw [List.getElem?_append_right (by omega), lfs, y1]; simp
              · rw [List.getElem?_append_left (by omega)]; exact HE.out q (by omega))
            have B1 : k + 1 ≤ maxLen := by unfold maxLen; omega
            have B2 : (k + 1) * 4 ≤ 140737488355328 := by omega
            have B3 := Lib.hid (show ∀ o, wq.heap.size ≤ (wr.alloc o).heap.size from fun o => by simp; omega)
            have B4 := Lib.hid (show ∀ o, (wr.alloc o).heap.size = wr.heap.size + 1 from fun o => by simp)
            have BG := Lib.hid (show ∀ o w6, (wr.alloc o).grownBy w6 (some fg) → Below wq.heap.size wq w6 from fun o w6 h => (HG.out.alloc zr2 o).trans (gBelow h (by simp; omega) (fun q hq => by simp only [Option.some.injEq] at hq; omega)))
            clear hd hn hfi y0 y1 y2 y3 HF HE HG lfs
            go_wp2_with (with_reducible refine wpList_append_lies _ (o := ⟨some 72, _, _, _, _, _⟩) rfl _ _ 45 rfl wq.heap.size 21 iI _ 1 4 Try.underlying45 II.out II0.out II1.out II2.out rfl (by omega) (.slice (some ⟨fg, 0, none⟩) k fc) k fs rfl (OWN.out _) ⟨wr.heap.size, 0, none⟩ 1 1 [.int .i32 l] rfl rfl NEW.out ONE.out (by omega) B1 B2 (B3.out _) (wr.heap.size + 1) (B4.out _) ?_)
            intro g' c' w6 ho3 hg3 hlie hlt3
            have DA1 := Lib.hid (show FR j xs wq (.slice (some ⟨g', 0, none⟩) (k + 1) c') (.int .i64 ((k + 1 : Nat) : Int)) w6 from ⟨k + 1, g', c', _, by omega, rfl, rfl, Lib.hid ho3, HE1, Lib.hid (BG.out _ _ hg3)⟩)
            clear ho3 hg3 hlie OWN NEW HE1 BG
            go_wp2_with fail
            go_roundw
            case measure => simp [intOf]; omega
            case rel => exact DA1.out
          · have e : k = j := by omega
            subst e
            obtain ⟨j, hjk⟩ : ∃ j, j = k := ⟨_, rfl⟩
            subst hjk
            rcases (show a1 % 3 = 0 ∨ a1 % 3 = 1 ∨ a1 % 3 = 2 by omega) with hk | hk | hk
            · have HK := Lib.hid (Nat.le_refl 0)
              go_wp2_with fail
              refine (bLocal 1048576 wr.heap.size _).mono ?_
              rintro e Y ⟨rfl, hw⟩
              have zy := hw.size
              simp at zy
              go_wp2_with fail
              obtain ⟨W, hW⟩ : ∃ W, W = Y.alloc (.cells #[.iface 75 (.pointer (some ⟨wr.heap.size, 0, none⟩)), .int .i32 1048576] 33) := ⟨_, rfl⟩
              obtain ⟨X, hX⟩ : ∃ X, X = wr.heap.size := ⟨_, rfl⟩
              obtain ⟨M, hM⟩ : ∃ M, M = Y.heap.size := ⟨_, rfl⟩
              have hxy : X < M := by omega
              have hBW : Below wr.heap.size wr W := by
                rw [hW]
                exact (((Below.refl _ _).alloc (Nat.le_refl _) _).trans (hw.mono (by simp))).alloc (by omega) _
              have HGX := Lib.hid (show GX w1.heap.size w1.heap.size len0 c1 X M a1' j p g c fg fc lp 0 xs fs Ls S ia ic W from toGX HX1.out ((HG.out.trans (hBW.mono HG.out.size))) (by have := HG.out.size; omega) (ownKeep HF.out (fun q hq => hBW.block q (ownLt HF.out q hq))) (by have := (World.ownsRow.lt HF.out fg rfl).2; omega) HE.out (by rw [hW, hX]; exact (((At.new wr 77 _).below hw (by simp)).alloc _)) (by rw [hW, hM, hX]; exact At.new _ _ _) hxy)
              have HFW := Lib.hid (show Below w.heap.size w W from HB.out.trans ((HX1.out.gr.trans ((HG.out.trans (hBW.mono HG.out.size)).mono HX1.out.gr.size)).mono zz1))
              rw [← hX] at hW
              rw [← hX, ← hW, ← hM]
              have zW : W.heap.size = M + 1 := by rw [hW]; simp [hM]
              have zWX : w.heap.size ≤ X := by have := HG.out.size; have := HX1.out.gr.size; omega
              clear zW
              clear hW hX hM hBW hw HF HE HG HX1 zy
              have hSW : ∀ q, (S q ∨ q = g ∨ q = X) → q < W.heap.size := fun q hq => by
                have h1 := HGX.out.x.lt
                rcases hq with hq | rfl | rfl
                · have := (HGX.out.s q hq).2; omega
                · have := HGX.out.gx; omega
                · exact h1
              refine (zkv hSW (skVar (b := X) (R := g) (n := j) (c := c) (xs := xs) (Ls := Ls) (B2 := w1.heap.size + 1) (S := fun q => S q ∨ q = g ∨ q = X) (w := W) 1048576 (.inr (.inr rfl)) (.inr (.inl rfl)) (by rw [HGX.out.x.cell]; rfl) (by rw [HGX.out.x.cell]; rfl) (HGX.out.x.frozen 0) HGX.out.own (HGX.out.it.more (fun _ h => .inl h) hSW) hSW (by omega) (by omega))).mono ?_
              rintro e w7 (⟨hempty, rfl, y2⟩ | ⟨hne, rfl, a9, c2, w8, h3, h4, rfl⟩)
              · have HG7 := Lib.hid (HGX.out.below y2)
                have HF7 := Lib.hid (show Below w.heap.size w w7 from HFW.out.trans (y2.mono HFW.out.size))
                clear y2 HGX HFW hSW
                have x0 : w7.cell? ⟨X, 0, none⟩ = some (.slice (some ⟨g, 0, none⟩) j c) := by rw [HG7.out.x.cell]; rfl
                have x3 : w7.cell? ⟨w1.heap.size, 3, none⟩ = some (.slice ia (cat Ls j).length ic) := by rw [HG7.out.q.cell]; rfl
                have lx := HG7.out.x.lt
                have lq := HG7.out.q.lt
                have hz0 : (cat Ls j).length = 0 := by rw [hempty]; rfl
                rw [hz0] at x3
                go_wp2_with fail
                go_loopw [14] (fun i wr => QR j w7 i wr) (fun i _ => j - (intOf i).toNat)
                case atStart => exact ⟨0, Nat.zero_le _, rfl, Lib.hid (Below.refl _ _)⟩
                case round =>
                  obtain ⟨k, hk2, rfl, HL⟩ := hrel
                  have HG8 := Lib.hid (HG7.out.below HL.out)
                  by_cases hlt : k < j
                  · obtain ⟨d, l, dv, e1, e2, hd, hn, hfi, y0, y1, y2, y3⟩ := HG8.out.it.2 k hlt
                    obtain ⟨t, bv, hv⟩ := HG8.out.val k hlt
                    have z0 : wr.cell? ⟨X, 0, none⟩ = some (.slice (some ⟨g, 0, none⟩) j c) := by rw [HG8.out.x.cell]; rfl
                    have z1 : wr.cell? ⟨g, k * 4 + 1, none⟩ = some (.int .i32 l) := by rw [World.ownsRow.cellAt HG8.out.own _ (by omega)]; exact y1
                    have z2 : wr.cell? ⟨g, k * 4 + 2, none⟩ = some (.iface t (.pointer (some ⟨bv, 0, none⟩))) := by rw [World.ownsRow.cellAt HG8.out.own _ (by omega)]; exact hv
                    have z3 : wr.cell? ⟨fg, k, none⟩ = some (.int .i32 l) := by
                      have h := World.ownsRow.cellAt HG8.out.fo k (by omega)
                      rw [h, HG8.out.fe k hlt]
                      exact y1
                    have lx' := HG8.out.x.lt
                    have lg' : g < wr.heap.size := World.block_lt_of_cell? _ _ z1
                    have lf' : fg < wr.heap.size := World.block_lt_of_cell? _ _ z3
                    have ne1 : (l != l) = false := by simp
                    have k0 : (0 : Int) ≤ (k : Int) := Int.natCast_nonneg _
                    have k1 : (k : Int) < (j : Int) := by omega
                    clear hd hn hfi y0 y1 y2 y3 hv HG8 x0 x3 lx lq
                    go_wp2_with fail
                    go_quiet (fail)
                    go_wp2_with fail
                    go_roundw
                    case rel => exact ⟨k + 1, by omega, by go_num, Lib.hid (below_drewN HL.out _)⟩
                    case measure => simp [intOf]; omega
                  · have e : k = j := by omega
                    subst e
                    have HE := Lib.hid (show Below w.heap.size w wr from HF7.out.trans (HL.out.mono (HF7.out.size)))
                    clear HG8
                    go_wp2_with fail
                    go_ret
                    exact ⟨rfl, HE.out⟩
              · obtain ⟨g2, rfl, HH7'⟩ := toHX HGX.out hne h3 h4
                obtain ⟨L, hL⟩ : ∃ L, L = cat Ls j := ⟨_, rfl⟩
                have hlen' : L.length ≤ 4096 := by rw [hL]; omega
                have hLpos : 0 < L.length := by rw [hL]; cases hLL : cat Ls j with | nil => exact absurd hLL hne | cons => simp
                have HLne := Lib.hid (show L ≠ [] from by rw [hL]; exact hne)
                have HH7 := Lib.hid HH7'
                obtain ⟨w7, hw7⟩ : ∃ W, W = w8.setCell ⟨X, 0, none⟩ (.slice (some ⟨g2, 0, none⟩) (cat Ls j).length c2) := ⟨_, rfl⟩
                have HF7 := Lib.hid (show Below w.heap.size w w7 from by rw [hw7]; exact (HFW.out.trans (h3.mono HFW.out.size)).setCell (by simp; omega) _)
                rw [← hw7] at HH7 ⊢
                rw [← hL] at HH7
                clear hw7 HH7' h3 h4 HGX HFW hSW hne hL hlen
                have nz0 : ((L.length : Int) == 0) = false := beq_false_of_ne (by omega)
                have nz1 : (L.length == 0) = false := beq_false_of_ne (by omega)
                have x3a : w7.cell? ⟨w1.heap.size, 3, none⟩ = some (.slice ia L.length ic) := by rw [HH7.out.q.cell]; rfl
                have lqa := HH7.out.q.lt
                have x0 : w7.cell? ⟨X, 0, none⟩ = some (.slice (some ⟨g2, 0, none⟩) L.length c2) := by rw [HH7.out.x.cell]; rfl
                have x3 : w7.cell? ⟨w1.heap.size, 3, none⟩ = some (.slice ia L.length ic) := by rw [HH7.out.q.cell]; rfl
                have lx := HH7.out.x.lt
                have lq := HH7.out.q.lt
                have ne0 : ((L.length : Int) != (L.length : Int)) = false := by simp
                go_wp2_with fail
                clear x3a lqa
                go_quiet (fail)
                have HH7v := Lib.hid (HH7.out.below (below_drewN (Below.refl _ _) nq))
                have HF7v := Lib.hid (show Below w.heap.size w (w7.drewN nq) from below_drewN HF7.out nq)
                obtain ⟨U15, hU15⟩ : ∃ V, V = w7.drewN nq := ⟨_, rfl⟩
                rw [← hU15] at HH7v HF7v ⊢
                clear hU15 x0 x3 lx lq HH7 HF7 ne0
                go_wp2_with fail
                go_loopw [15] (fun i wr => QR L.length U15 i wr) (fun i _ => L.length - (intOf i).toNat)
                case atStart => exact ⟨0, Nat.zero_le _, rfl, Lib.hid (Below.refl _ _)⟩
                case round =>
                  obtain ⟨k, hk2, rfl, HL⟩ := hrel
                  have HG8 := Lib.hid (HH7v.out.below HL.out)
                  have x3 : wr.cell? ⟨w1.heap.size, 3, none⟩ = some (.slice ia L.length ic) := by rw [HG8.out.q.cell]; rfl
                  have lq := HG8.out.q.lt
                  by_cases hlt : k < L.length
                  · obtain ⟨pr, hpr⟩ : ∃ p, L[k]? = some p := ⟨_, List.getElem?_eq_getElem hlt⟩
                    obtain ⟨y0, y1, y2, y3⟩ := dcells_get L k pr hpr
                    obtain ⟨ia', ic', e2, hrd⟩ := ownRead HG8.out.ids (by omega)
                    simp only [Value.slice.injEq] at e2
                    obtain ⟨rfl, _, rfl⟩ := e2
                    obtain ⟨ib, rfl, hib⟩ := hrd (by omega)
                    have z0 : wr.cell? ⟨X, 0, none⟩ = some (.slice (some ⟨g2, 0, none⟩) L.length c2) := by rw [HG8.out.x.cell]; rfl
                    have z1 : wr.cell? ⟨g2, k * 4 + 1, none⟩ = some (.int .i32 pr.2) := by rw [World.ownsRow.cellAt HG8.out.own _ (by omega)]; exact y1
                    have z2 : wr.cell? ⟨g2, k * 4 + 2, none⟩ = some .nilIface := by rw [World.ownsRow.cellAt HG8.out.own _ (by omega)]; exact y2
                    have z3 : wr.cell? ⟨ib, k, none⟩ = some (.int .i32 pr.2) := by rw [hib k (by omega)]; exact locs_get L k pr hpr
                    have lx' := HG8.out.x.lt
                    have lg' : g2 < wr.heap.size := World.block_lt_of_cell? _ _ z1
                    have lf' : ib < wr.heap.size := World.block_lt_of_cell? _ _ z3
                    obtain ⟨lo, hlo⟩ : ∃ x, x = pr.2 := ⟨_, rfl⟩
                    rw [← hlo] at z1 z3
                    have ne1 : (lo != lo) = false := by simp
                    have k0 : (0 : Int) ≤ (k : Int) := Int.natCast_nonneg _
                    have k1 : (k : Int) < (L.length : Int) := by omega
                    clear hpr y0 y1 y2 y3 hib hrd HG8 hlo
                    go_wp2_with fail
                    go_quiet (fail)
                    go_wp2_with fail
                    go_roundw
                    case rel => exact ⟨k + 1, by omega, by go_num, Lib.hid (below_drewN HL.out _)⟩
                    case measure => simp [intOf]; omega
                  · have e : k = L.length := by omega
                    have k1 : ¬ ((k : Int) < (L.length : Int)) := by omega
                    have HE := Lib.hid (show Below w.heap.size w wr from HF7v.out.trans (HL.out.mono (HF7v.out.size)))
                    clear HH7v HF7v HL
                    have m0 : wr.cell? ⟨M, 0, none⟩ = some (.iface 75 (.pointer (some ⟨X, 0, none⟩))) := by rw [HG8.out.m.cell]; rfl
                    have m1 : wr.cell? ⟨M, 1, none⟩ = some (.int .i32 1048576) := by rw [HG8.out.m.cell]; rfl
                    have lm := HG8.out.m.lt
                    have hS9 : ∀ q, (q = X ∨ q = g2) → q < wr.heap.size := fun q hq => by
                      rcases hq with rfl | rfl
                      · exact HG8.out.x.lt
                      · exact (World.ownsRow.lt HG8.out.own _ rfl).2
                    have CC9 := Lib.hid (zkv (L := cat (one L) L.length) hS9 (skVar (b := X) (R := g2) (n := L.length) (c := c2) (xs := dcells L) (Ls := one L) (B2 := M + 1) (S := fun q => q = X ∨ q = g2) (w := wr) 1048576 (.inl rfl) (.inr rfl) (by rw [HG8.out.x.cell]; rfl) (by rw [HG8.out.x.cell]; rfl) (HG8.out.x.frozen 0) HG8.out.own (itOne L hS9) hS9 (by omega) (by rw [cat_one L _ (Nat.le_refl _)]; simp; omega)))
                    rw [cat_one L _ (Nat.le_refl _), List.take_length] at CC9
                    clear hS9
                    go_wp2_with fail
                    refine CC9.out.mono ?_
                    rintro e w9 (⟨hbad, rfl, _⟩ | ⟨_, rfl, a9, c3, w10, h3, h4, rfl⟩)
                    · exact absurd hbad HLne.out
                    · obtain ⟨g3, rfl, HH9'⟩ := againHX HG8.out HLne.out h3 h4
                      have HH9 := Lib.hid HH9'
                      obtain ⟨w9, hw9⟩ : ∃ W, W = w10.setCell ⟨X, 0, none⟩ (.slice (some ⟨g3, 0, none⟩) L.length c3) := ⟨_, rfl⟩
                      have HF9 := Lib.hid (show Below w.heap.size w w9 from by rw [hw9]; exact (HE.out.trans (h3.mono HE.out.size)).setCell (by simp; omega) _)
                      rw [← hw9] at HH9 ⊢
                      clear hw9 HH9' h3 h4 HG8 HE m0 m1 lm CC9
                      have x0 : w9.cell? ⟨X, 0, none⟩ = some (.slice (some ⟨g3, 0, none⟩) L.length c3) := by rw [HH9.out.x.cell]; rfl
                      have x3 : w9.cell? ⟨w1.heap.size, 3, none⟩ = some (.slice ia L.length ic) := by rw [HH9.out.q.cell]; rfl
                      have lx := HH9.out.x.lt
                      have lq := HH9.out.q.lt
                      have ne0 : ((L.length : Int) != (L.length : Int)) = false := by simp
                      go_wp2_with fail
                      go_quiet (fail)
                      have HH9v := Lib.hid (HH9.out.below (below_drewN (Below.refl _ _) nq))
                      have HF9v := Lib.hid (show Below w.heap.size w (w9.drewN nq) from below_drewN HF9.out nq)
                      obtain ⟨U17, hU17⟩ : ∃ V, V = w9.drewN nq := ⟨_, rfl⟩
                      rw [← hU17] at HH9v HF9v ⊢
                      clear hU17 x0 x3 lx lq HH9 HF9 ne0
                      go_wp2_with fail
                      go_loopw [17] (fun i wr => QR L.length U17 i wr) (fun i _ => L.length - (intOf i).toNat)
                      case atStart => exact ⟨0, Nat.zero_le _, rfl, Lib.hid (Below.refl _ _)⟩
                      case round =>
                        obtain ⟨k, hk2, rfl, HL⟩ := hrel
                        have HG8 := Lib.hid (HH9v.out.below HL.out)
                        have x3 : wr.cell? ⟨w1.heap.size, 3, none⟩ = some (.slice ia L.length ic) := by rw [HG8.out.q.cell]; rfl
                        have lq := HG8.out.q.lt
                        by_cases hlt : k < L.length
                        · obtain ⟨pr, hpr⟩ : ∃ p, L[k]? = some p := ⟨_, List.getElem?_eq_getElem hlt⟩
                          obtain ⟨y0, y1, y2, y3⟩ := dcells_get L k pr hpr
                          obtain ⟨ia', ic', e2, hrd⟩ := ownRead HG8.out.ids (by omega)
                          simp only [Value.slice.injEq] at e2
                          obtain ⟨rfl, _, rfl⟩ := e2
                          obtain ⟨ib, rfl, hib⟩ := hrd (by omega)
                          have z0 : wr.cell? ⟨X, 0, none⟩ = some (.slice (some ⟨g3, 0, none⟩) L.length c3) := by rw [HG8.out.x.cell]; rfl
                          have z1 : wr.cell? ⟨g3, k * 4 + 1, none⟩ = some (.int .i32 pr.2) := by rw [World.ownsRow.cellAt HG8.out.own _ (by omega)]; exact y1
                          have z2 : wr.cell? ⟨g3, k * 4 + 2, none⟩ = some .nilIface := by rw [World.ownsRow.cellAt HG8.out.own _ (by omega)]; exact y2
                          have z3 : wr.cell? ⟨ib, k, none⟩ = some (.int .i32 pr.2) := by rw [hib k (by omega)]; exact locs_get L k pr hpr
                          have lx' := HG8.out.x.lt
                          have lg' : g3 < wr.heap.size := World.block_lt_of_cell? _ _ z1
                          have lf' : ib < wr.heap.size := World.block_lt_of_cell? _ _ z3
                          obtain ⟨lo, hlo⟩ : ∃ x, x = pr.2 := ⟨_, rfl⟩
                          rw [← hlo] at z1 z3
                          have ne1 : (lo != lo) = false := by simp
                          have k0 : (0 : Int) ≤ (k : Int) := Int.natCast_nonneg _
                          have k1 : (k : Int) < (L.length : Int) := by omega
                          clear hpr y0 y1 y2 y3 hib hrd HG8 hlo
                          go_wp2_with fail
                          go_quiet (fail)
                          go_wp2_with fail
                          go_roundw
                          case rel => exact ⟨k + 1, by omega, by go_num, Lib.hid (below_drewN HL.out _)⟩
                          case measure => simp [intOf]; omega
                        · have e : k = L.length := by omega
                          have k1 : ¬ ((k : Int) < (L.length : Int)) := by omega
                          have HE := Lib.hid (show Below w.heap.size w wr from HF9v.out.trans (HL.out.mono (HF9v.out.size)))
                          clear HH9v HF9v HL
                          clear HG8
                          go_wp2_with fail
                          go_ret
                          exact ⟨rfl, HE.out⟩
            · have HK := Lib.hid (Nat.le_refl 0)
              go_wp2_with fail
              refine (bLocal 1048576 wr.heap.size _).mono ?_
              rintro e Y ⟨rfl, hw⟩
              have zy := hw.size
              simp at zy
              go_wp2_with fail
              obtain ⟨W, hW⟩ : ∃ W, W = Y.alloc (.cells #[.iface 75 (.pointer (some ⟨wr.heap.size, 0, none⟩)), .int .i32 1048576] 33) := ⟨_, rfl⟩
              obtain ⟨X, hX⟩ : ∃ X, X = wr.heap.size := ⟨_, rfl⟩
              obtain ⟨M, hM⟩ : ∃ M, M = Y.heap.size := ⟨_, rfl⟩
              have hxy : X < M := by omega
              have hBW : Below wr.heap.size wr W := by
                rw [hW]
                exact (((Below.refl _ _).alloc (Nat.le_refl _) _).trans (hw.mono (by simp))).alloc (by omega) _
              have HGX := Lib.hid (show GX w1.heap.size w1.heap.size len0 c1 X M a1' j p g c fg fc lp 1 xs fs Ls S ia ic W from toGX HX1.out ((HG.out.trans (hBW.mono HG.out.size))) (by have := HG.out.size; omega) (ownKeep HF.out (fun q hq => hBW.block q (ownLt HF.out q hq))) (by have := (World.ownsRow.lt HF.out fg rfl).2; omega) HE.out (by rw [hW, hX]; exact (((At.new wr 77 _).below hw (by simp)).alloc _)) (by rw [hW, hM, hX]; exact At.new _ _ _) hxy)
              have HFW := Lib.hid (show Below w.heap.size w W from HB.out.trans ((HX1.out.gr.trans ((HG.out.trans (hBW.mono HG.out.size)).mono HX1.out.gr.size)).mono zz1))
              rw [← hX] at hW
              rw [← hX, ← hW, ← hM]
              have zW : W.heap.size = M + 1 := by rw [hW]; simp [hM]
              have zWX : w.heap.size ≤ X := by have := HG.out.size; have := HX1.out.gr.size; omega
              clear zW
              clear hW hX hM hBW hw HF HE HG HX1 zy
              refine (zks (skLet (B := X) (b := X) (kd := 1) (S := fun q => q = X) (w := W) 1048576 (fun q hq => by subst hq; exact ⟨Nat.le_refl _, HGX.out.x.lt⟩) rfl (by rw [HGX.out.x.cell]; rfl) (by omega) (by omega)) (by have := HGX.out.x.lt; omega)).mono ?_
              rintro e w7 ⟨rfl, _, y2⟩
              have HG7 := Lib.hid (HGX.out.below (y2 rfl))
              have HF7 := Lib.hid (show Below w.heap.size w w7 from HFW.out.trans ((y2 rfl).mono HFW.out.size))
              clear y2 HGX HFW
              have x0 : w7.cell? ⟨X, 0, none⟩ = some (.slice (some ⟨g, 0, none⟩) j c) := by rw [HG7.out.x.cell]; rfl
              have x3 : w7.cell? ⟨w1.heap.size, 3, none⟩ = some (.slice ia (cat Ls j).length ic) := by rw [HG7.out.q.cell]; rfl
              have lx := HG7.out.x.lt
              have lq := HG7.out.q.lt
              go_wp2_with fail
              go_loopw [14] (fun i wr => QR j w7 i wr) (fun i _ => j - (intOf i).toNat)
              case atStart => exact ⟨0, Nat.zero_le _, rfl, Lib.hid (Below.refl _ _)⟩
              case round =>
                obtain ⟨k, hk2, rfl, HL⟩ := hrel
                have HG8 := Lib.hid (HG7.out.below HL.out)
                by_cases hlt : k < j
                · obtain ⟨d, l, dv, e1, e2, hd, hn, hfi, y0, y1, y2, y3⟩ := HG8.out.it.2 k hlt
                  obtain ⟨t, bv, hv⟩ := HG8.out.val k hlt
                  have z0 : wr.cell? ⟨X, 0, none⟩ = some (.slice (some ⟨g, 0, none⟩) j c) := by rw [HG8.out.x.cell]; rfl
                  have z1 : wr.cell? ⟨g, k * 4 + 1, none⟩ = some (.int .i32 l) := by rw [World.ownsRow.cellAt HG8.out.own _ (by omega)]; exact y1
                  have z2 : wr.cell? ⟨g, k * 4 + 2, none⟩ = some (.iface t (.pointer (some ⟨bv, 0, none⟩))) := by rw [World.ownsRow.cellAt HG8.out.own _ (by omega)]; exact hv
                  have z3 : wr.cell? ⟨fg, k, none⟩ = some (.int .i32 l) := by
                    have h := World.ownsRow.cellAt HG8.out.fo k (by omega)
                    rw [h, HG8.out.fe k hlt]
                    exact y1
                  have lx' := HG8.out.x.lt
                  have lg' : g < wr.heap.size := World.block_lt_of_cell? _ _ z1
                  have lf' : fg < wr.heap.size := World.block_lt_of_cell? _ _ z3
                  have ne1 : (l != l) = false := by simp
                  have k0 : (0 : Int) ≤ (k : Int) := Int.natCast_nonneg _
                  have k1 : (k : Int) < (j : Int) := by omega
                  clear hd hn hfi y0 y1 y2 y3 hv HG8 x0 x3 lx lq
                  go_wp2_with fail
                  go_quiet (fail)
                  go_wp2_with fail
                  go_roundw
                  case rel => exact ⟨k + 1, by omega, by go_num, Lib.hid (below_drewN HL.out _)⟩
                  case measure => simp [intOf]; omega
                · have e : k = j := by omega
                  subst e
                  have HE := Lib.hid (show Below w.heap.size w wr from HF7.out.trans (HL.out.mono (HF7.out.size)))
                  clear HG8
                  go_wp2_with fail
                  go_ret
                  exact ⟨rfl, HE.out⟩
            · have HK := Lib.hid (Nat.le_refl 0)
              go_wp2_with fail
              refine (bLocal 1048576 wr.heap.size _).mono ?_
              rintro e Y ⟨rfl, hw⟩
              have zy := hw.size
              simp at zy
              go_wp2_with fail
              obtain ⟨W, hW⟩ : ∃ W, W = Y.alloc (.cells #[.iface 75 (.pointer (some ⟨wr.heap.size, 0, none⟩)), .int .i32 1048576] 33) := ⟨_, rfl⟩
              obtain ⟨X, hX⟩ : ∃ X, X = wr.heap.size := ⟨_, rfl⟩
              obtain ⟨M, hM⟩ : ∃ M, M = Y.heap.size := ⟨_, rfl⟩
              have hxy : X < M := by omega
              have hBW : Below wr.heap.size wr W := by
                rw [hW]
                exact (((Below.refl _ _).alloc (Nat.le_refl _) _).trans (hw.mono (by simp))).alloc (by omega) _
              have HGX := Lib.hid (show GX w1.heap.size w1.heap.size len0 c1 X M a1' j p g c fg fc lp 2 xs fs Ls S ia ic W from toGX HX1.out ((HG.out.trans (hBW.mono HG.out.size))) (by have := HG.out.size; omega) (ownKeep HF.out (fun q hq => hBW.block q (ownLt HF.out q hq))) (by have := (World.ownsRow.lt HF.out fg rfl).2; omega) HE.out (by rw [hW, hX]; exact (((At.new wr 77 _).below hw (by simp)).alloc _)) (by rw [hW, hM, hX]; exact At.new _ _ _) hxy)
              have HFW := Lib.hid (show Below w.heap.size w W from HB.out.trans ((HX1.out.gr.trans ((HG.out.trans (hBW.mono HG.out.size)).mono HX1.out.gr.size)).mono zz1))
              rw [← hX] at hW
              rw [← hX, ← hW, ← hM]
              have zW : W.heap.size = M + 1 := by rw [hW]; simp [hM]
              have zWX : w.heap.size ≤ X := by have := HG.out.size; have := HX1.out.gr.size; omega
              clear zW
              clear hW hX hM hBW hw HF HE HG HX1 zy
              refine (zks (skLet (B := X) (b := X) (kd := 2) (S := fun q => q = X) (w := W) 1048576 (fun q hq => by subst hq; exact ⟨Nat.le_refl _, HGX.out.x.lt⟩) rfl (by rw [HGX.out.x.cell]; rfl) (by omega) (by omega)) (by have := HGX.out.x.lt; omega)).mono ?_
              rintro e w7 ⟨rfl, _, y2⟩
              have HG7 := Lib.hid (HGX.out.below (y2 rfl))
              have HF7 := Lib.hid (show Below w.heap.size w w7 from HFW.out.trans ((y2 rfl).mono HFW.out.size))
              clear y2 HGX HFW
              have x0 : w7.cell? ⟨X, 0, none⟩ = some (.slice (some ⟨g, 0, none⟩) j c) := by rw [HG7.out.x.cell]; rfl
              have x3 : w7.cell? ⟨w1.heap.size, 3, none⟩ = some (.slice ia (cat Ls j).length ic) := by rw [HG7.out.q.cell]; rfl
              have lx := HG7.out.x.lt
              have lq := HG7.out.q.lt
              go_wp2_with fail
              go_loopw [14] (fun i wr => QR j w7 i wr) (fun i _ => j - (intOf i).toNat)
              case atStart => exact ⟨0, Nat.zero_le _, rfl, Lib.hid (Below.refl _ _)⟩
              case round =>
                obtain ⟨k, hk2, rfl, HL⟩ := hrel
                have HG8 := Lib.hid (HG7.out.below HL.out)
                by_cases hlt : k < j
                · obtain ⟨d, l, dv, e1, e2, hd, hn, hfi, y0, y1, y2, y3⟩ := HG8.out.it.2 k hlt
                  obtain ⟨t, bv, hv⟩ := HG8.out.val k hlt
                  have z0 : wr.cell? ⟨X, 0, none⟩ = some (.slice (some ⟨g, 0, none⟩) j c) := by rw [HG8.out.x.cell]; rfl
                  have z1 : wr.cell? ⟨g, k * 4 + 1, none⟩ = some (.int .i32 l) := by rw [World.ownsRow.cellAt HG8.out.own _ (by omega)]; exact y1
                  have z2 : wr.cell? ⟨g, k * 4 + 2, none⟩ = some (.iface t (.pointer (some ⟨bv, 0, none⟩))) := by rw [World.ownsRow.cellAt HG8.out.own _ (by omega)]; exact hv
                  have z3 : wr.cell? ⟨fg, k, none⟩ = some (.int .i32 l) := by
                    have h := World.ownsRow.cellAt HG8.out.fo k (by omega)
                    rw [h, HG8.out.fe k hlt]
                    exact y1
                  have lx' := HG8.out.x.lt
                  have lg' : g < wr.heap.size := World.block_lt_of_cell? _ _ z1
                  have lf' : fg < wr.heap.size := World.block_lt_of_cell? _ _ z3
                  have ne1 : (l != l) = false := by simp
                  have k0 : (0 : Int) ≤ (k : Int) := Int.natCast_nonneg _
                  have k1 : (k : Int) < (j : Int) := by omega
                  clear hd hn hfi y0 y1 y2 y3 hv HG8 x0 x3 lx lq
                  go_wp2_with fail
                  go_quiet (fail)
                  go_wp2_with fail
                  go_roundw
                  case rel => exact ⟨k + 1, by omega, by go_num, Lib.hid (below_drewN HL.out _)⟩
                  case measure => simp [intOf]; omega
                · have e : k = j := by omega
                  subst e
                  have HE := Lib.hid (show Below w.heap.size w wr from HF7.out.trans (HL.out.mono (HF7.out.size)))
                  clear HG8
                  go_wp2_with fail
                  go_ret
                  exact ⟨rfl, HE.out⟩
  · obtain ⟨b, hb⟩ := bytes_any a0 len0 cap0 a1 w (lenOf w0)
    have m0 := lenOf w0
    unfold maxLen at m0
    have HB := Lib.hid hb
    have h1 : 4096 < len0 := by omega
    clear hb w0
    go_enter Try.func6, Try.ntmps6
    go_wp2_with fail
    refine HB.out.mono ?_
    rintro e w' ⟨rfl, rfl⟩
    cases b <;> (go_wp2_with fail; go_ret; exact ⟨rfl, Below.refl _ _⟩)
end Go.Proofs.Ytppcfibhpgjnoaa.fnShouldKeepVarKeepsExactlyItsIdentifiers
