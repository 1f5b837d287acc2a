/- Proved here: small lemmas for the walks of the two laws of generateImportStmt. Conditions as stated. -/
import Derived.Test.YtoblkmnhoiodcaaDoorGIP
import Derived.WalkKit
import Derived.WalkSpells
import Derived.WalkLawsBesides
import Derived.Lib.Hide
import Derived.Lib.SliceRun
import Derived.Deep.RegionWith
import Derived.OwnWalk
import Derived.Laws.OwnMore
namespace Go.Proofs.YtoblkmnhoiodcaaDoor
open Go.RowKit
set_option linter.unusedSimpArgs false
set_option linter.unusedVariables false
namespace GI
open IM IB

theorem rowBelow {k : IntKind} {w w' : World} {a : Option Addr} {len cap : Nat} {zs : List Int} (h : IsRow k w a len cap zs) (hb : Below w.heap.size w w') : IsRow k w' a len cap zs := by
  rcases h with h | ⟨x, h1, h2, h3, h4, h5, h6⟩
  · exact .inl h
  · refine .inr ⟨x, h1, h2, h3, h4, fun i hi => ?_, h6⟩
    have hx := h5 i hi
    obtain ⟨b, off, e⟩ := spot_none (h5 0 (by omega))
    rw [e, add_none] at hx ⊢
    exact kept hb hx

/-- The map of names, half filled. -/
def SMR (zs : List ByteArray) (loc : Nat → Int) (σ : Int) (W : World) (i : Nat) (wr : World) : Prop := MP mkS wr W.heap.size (smf zs loc σ i) ∧ Below W.heap.size W wr
theorem rowHeap {w w' : World} {a : Option Addr} {len : Nat} {f : Nat → Value} (h : RowV w a len f) (e : w'.heap = w.heap) : RowV w' a len f := fun hp => by
  obtain ⟨B, off, ea, hc⟩ := h hp
  exact ⟨B, off, ea, fun i hi => (World.cell?_of_block (a := ⟨B, off + i, none⟩) (by rw [e])).trans (hc i hi)⟩

/-- A pointer to an index, or nil. -/
def OPT (hs : Bool) (sv : Int) (W : World) (s : Value) (wx : World) : Prop := ∃ o : Option (Nat × Int), s = .pointer (o.map fun p => ⟨p.1, 0, none⟩) ∧ o.isSome = hs ∧ (∀ p, o = some p → p.2 = sv ∧ At wx p.1 24 #[.int .u32 sv] ∧ W.heap.size ≤ p.1) ∧ Below W.heap.size W wx

theorem endAt {B pb sb mi mn n1 np m : Nat} {XS : List Value} {ns1 : Nat} {YS : List Value} {ng1 : Nat} {GL : List Value} {Li Ln : List ((Int × Int) × Value)} {pcs : List Value} {D : Array Value} {st' : Int} {n tb ib q db g cap : Nat} {w w1 w2 : World}
    (h : EndP B pb sb mi mn n1 np m XS ns1 YS ng1 GL Li Ln pcs D st' n tb ib q db g cap w w1) (hb : Below w1.heap.size w1 w2) : EndP B pb sb mi mn n1 np m XS ns1 YS ng1 GL Li Ln pcs D st' n tb ib q db g cap w w2 := by
  obtain ⟨h1, h2, h3, h4, h5, h6, h7, h8, h9⟩ := h
  exact ⟨ownKeep h1 (fun k cs _ ha => hb.block k ha.lt), h2, h3.below hb h3.lt, h4.below hb h4.lt, h5.below hb h5.lt, h6.below hb, h7.trans (KQ.below hb), h8.trans (hb.mono (by have := h6.lt; have := h6.bp; omega)), h9⟩
/-- What the record's index tells. -/
def IVP (b : Bool) (o : Option (Nat × Int)) (W : World) (e : Ending) (w' : World) : Prop := e = .returned (.bool b) ∧ w' = W.alloc (.cells #[.int .u32 (ix o)] 71)
theorem validOf {o : Option (Nat × Int)} {b : Bool} {v : Int} {W : World} (h : o.isSome = b) (hv : ∀ p, o = some p → p.2 = v) (h0 : 0 ≤ v) (h1 : v ≤ 4294967295) (hb : (b && v == 4294967295) = false) : Calls Tryd.prog 13 #[.agg #[.int .u32 (ix o)]] W (IVP b o W) := by
  have e : (ix o != 0) = b := by
    cases o with
    | none => rw [← h]; rfl
    | some p =>
      have hp := hv p rfl
      have hbt : b = true := by rw [← h]; rfl
      have hne : v ≠ 4294967295 := fun e => by rw [hbt, e] at hb; simp at hb
      obtain ⟨n, rfl⟩ : ∃ n : Nat, v = n := ⟨v.toNat, by omega⟩
      have := cx_ne n (by omega)
      rw [hbt]
      show (cx p.2 != 0) = true
      rw [hp]
      simpa using this
  refine (idxValid (ix o) W).mono ?_
  rintro e' w' ⟨rfl, rfl⟩
  rw [e]
  exact ⟨rfl, rfl⟩
theorem getOf {o : Option (Nat × Int)} {v : Int} {W : World} (h : o.isSome = true) (hv : ∀ p, o = some p → p.2 = v) (h0 : 0 ≤ v) (h1 : v ≤ 4294967295) : Calls Tryd.prog 14 #[.agg #[.int .u32 (ix o)]] W (fun e w' => e = .returned (.int .u32 v) ∧ w' = W.alloc (.cells #[.int .u32 (ix o)] 71)) := by
  obtain ⟨p, rfl⟩ := Option.isSome_iff_exists.1 h
  have hp := hv p rfl
  obtain ⟨n, rfl⟩ : ∃ n : Nat, v = n := ⟨v.toNat, by omega⟩
  refine (idxGet (ix (some p)) W).mono ?_
  rintro e' w' ⟨rfl, rfl⟩
  refine ⟨?_, rfl⟩
  show Ending.returned (.int .u32 (cx (cx p.2))) = _
  rw [hp, cx_cx n (by omega)]
theorem madeCells_at (z : Array Value) {n i : Nat} (h : i < n) : (madeCells z n).toList[i]? = some (z[i % z.size]!) := by
  simp [madeCells, h]
theorem pcAt {PC : Array Value} {np k j : Nat} (h : PC = madeCells (Value.agg #[.slice none 0 0, .slice none 0 0, .slice none 0 0, .slice none 0 0, .map none, .map none, .map none, .slice none 0 0, .bool false, .bool false, .bool false]).cells (np * 11)) (hk : k < np) (hj : j < 4) : PC.toList[k * 11 + j]? = some (.slice none 0 0) := by
  have hlt : k * 11 + j < np * 11 := by omega
  have hmod : (k * 11 + j) % 11 = j := by omega
  rw [h]
  rcases (show j = 0 ∨ j = 1 ∨ j = 2 ∨ j = 3 by omega) with rfl | rfl | rfl | rfl
  all_goals
    rw [madeCells_at _ hlt, show (Value.agg #[.slice none 0 0, .slice none 0 0, .slice none 0 0, .slice none 0 0, .map none, .map none, .map none, .slice none 0 0, .bool false, .bool false, .bool false]).cells.size = 11 from rfl, hmod]
    rfl
end GI
end Go.Proofs.YtoblkmnhoiodcaaDoor
