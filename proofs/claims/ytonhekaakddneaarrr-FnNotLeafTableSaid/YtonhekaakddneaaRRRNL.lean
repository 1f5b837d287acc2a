/- Proved here: contracts of the law's guard and of its copy of a slice. Conditions: the lengths, as stated. -/
import Derived.Test.YtonhekaakddneaaRRRBase
import Derived.WalkKit
import Derived.WalkSpells
import Derived.WalkLawsBesides
import Derived.Lib.Hide
import Derived.Lib.SliceRun
import Derived.Deep.RegionWith
namespace Go.Proofs.YtonhekaakddneaaRRR.fnNotLeafTable
open Go.RowKit
set_option linter.unusedSimpArgs false
set_option linter.unusedVariables false
theorem made {P : Program} {t e : TypeId} {z : Value} {sz by_ : Nat} (hu : P.underlying t = some (.slice e)) (hi : (P.info? e).map (fun i => (i.zero, i.size, i.bytes)) = some (some z, sz, by_)) (w : World) (n : Nat) (hb : by_ * n ≤ 281474976710656) (hn : n ≤ 4611686018427387904) :
    (Instr.makeSlice t (.int .i64 (n : Int)) (.int .i64 (n : Int))).run P w = .ok (.slice (some ⟨w.heap.size, 0, none⟩) n n) (w.alloc (.cells (madeCells z.cells (n * sz)) e)) := by
  obtain ⟨i, hii, h⟩ := Option.map_eq_some_iff.1 hi
  simp only [Prod.mk.injEq] at h
  obtain ⟨h1, h2, h3⟩ := h
  subst h2 h3
  have hb2 : ((i.bytes * n : Nat) : Int) ≤ 281474976710656 := by omega
  rw [Int.natCast_mul] at hb2
  have h := run_make (P := P) w t e i z hu hii h1 .i64 .i64 (n : Int) (n : Int) (by omega) (by omega) hb2 (by omega)
  simpa using h
theorem add_none (b off k : Nat) : (⟨b, off, none⟩ : Addr).add k = ⟨b, off + k, none⟩ := by
  unfold Addr.add; split
  · rename_i h; subst h; rfl
  · rfl
theorem spot_none {w : World} {x : Addr} {v : Value} (h : w.cell? (x.add 0) = some v) : ∃ b off, x = ⟨b, off, none⟩ := by
  have h1 := World.cell?_spot h
  obtain ⟨b, off, spot⟩ := x
  have h2 : spot = none := by simpa [Addr.add] using h1
  exact ⟨b, off, by rw [h2]⟩
theorem madeAt (z : Value) (n i : Nat) (h : i < n) : (madeCells #[z] n)[i]? = some z := by
  simp [madeCells, h, Nat.mod_one]
/-- A slice of integers that reads as the first len of zs, nil let in. -/
def Row (k : IntKind) (w : World) (a : Option Addr) (len : Nat) (zs : List Int) : Prop :=
  len ≤ zs.length ∧ (0 < len → ∃ B off, a = some ⟨B, off, none⟩ ∧ ∀ i, i < len → w.cell? ⟨B, off + i, none⟩ = some (.int k (zs.getD i 0)))
theorem Row.below {k : IntKind} {w w' : World} {a : Option Addr} {len : Nat} {zs : List Int} (h : Row k w a len zs) (hb : Below w.heap.size w w') : Row k w' a len zs :=
  ⟨h.1, fun hp => by
    obtain ⟨B, off, e, hc⟩ := h.2 hp
    exact ⟨B, off, e, fun i hi => kept hb (hc i hi)⟩⟩
def Cloned (k : IntKind) (a : Option Addr) (len : Nat) (zs : List Int) (w : World) (e : Ending) (w' : World) : Prop :=
  ∃ a' cap', e = .returned (.slice a' len cap') ∧ (a' = none ↔ a = none) ∧ Row k w' a' len zs ∧ Below w.heap.size w w'


/-- What the copy 'copyU' hands back of a slice that is not nil. -/
def copyUPost (len : Nat) (zs : List Int) (w : World) (e : Ending) (w' : World) : Prop :=
  ∃ cs, e = .returned (.slice (some ⟨w.heap.size, 0, none⟩) len len) ∧ At w' w.heap.size 90 cs ∧ cs.size = len ∧ (∀ i, i < len → cs[i]? = some (.int .u16 (zs.getD i 0))) ∧ Below w.heap.size w w'
def copyURel (len : Nat) (zs : List Int) (w : World) (i : Value) (wr : World) : Prop :=
  ∃ (k : Nat) (cs : Array Value), k ≤ len ∧ i = .int .i64 k ∧ At wr w.heap.size 90 cs ∧ cs.size = len ∧ (∀ j, j < k → cs[j]? = some (.int .u16 (zs.getD j 0))) ∧ Below w.heap.size w wr
theorem copyU_nil (w : World) : Calls Try.prog 13 #[.slice none 0 0] w fun e w' => e = .returned (.slice none 0 0) ∧ w = w' := by
  have qT : ∀ (w : World) (a : Option Addr) (n c n' c' : Nat), (binOp .eql 40 (.slice a n c) (.slice none n' c')).run Try.prog w = .ok (.bool a.isNone) w := fun w a n c n' c' => Lib.run_eql_slice_nil w 40 90 a n c n' c' Try.underlying40
  go_enter Try.func13, Try.ntmps13
  go_wp2_with fail
  go_ret
  exact ⟨rfl, rfl⟩
set_option maxRecDepth 100000 in
set_option maxHeartbeats 1000000 in
theorem copyU_some (x : Addr) (len cap : Nat) (zs : List Int) (w : World) (hz : len ≤ zs.length) (hcell : ∀ i, i < zs.length → w.cell? (x.add i) = some (.int .u16 (zs.getD i 0))) (hlen : len ≤ 1048576) :
    Calls Try.prog 13 #[.slice (some x) len cap] w (copyUPost len zs w) := by
  have qT : ∀ (w : World) (a : Option Addr) (n c n' c' : Nat), (binOp .eql 40 (.slice a n c) (.slice none n' c')).run Try.prog w = .ok (.bool a.isNone) w := fun w a n c n' c' => Lib.run_eql_slice_nil w 40 90 a n c n' c' Try.underlying40
  have hmk := made (P := Try.prog) (t := 40) (e := 90) (z := .int .u16 0) (sz := 1) (by_ := 2) Try.underlying40 (by kernel_rfl) w len (by omega) (by omega)
  rw [Nat.mul_one] at hmk
  have HC := Lib.hid hcell
  clear hcell
  go_enter Try.func13, Try.ntmps13
  go_wp2_with fail
  go_loopw [4] (fun i wr => copyURel len zs w i wr) (fun i _ => len - (intOf i).toNat)
  case atStart => exact ⟨0, _, Nat.zero_le _, rfl, At.new _ _ _, by simp [size_madeCells, Value.cells], fun j hj => absurd hj (by omega), (Below.refl _ _).alloc (Nat.le_refl _) _⟩
  case round =>
    obtain ⟨k, cs, hk, rfl, hat, hsz, hcs, hb⟩ := hrel
    by_cases hlt : k < len
    · have hc := HC.out k (by omega)
      obtain ⟨b, off, rfl⟩ := spot_none (HC.out 0 (by omega))
      rw [add_none] at hc
      have hc1 : wr.cell? ⟨b, off + k, none⟩ = some (.int .u16 (zs.getD k 0)) := by
        exact kept hb hc
      have hd : wr.cell? ⟨w.heap.size, k, none⟩ = some cs[k] := by rw [hat.cell k]; simp [hsz, hlt]
      have hf := hat.frozen k
      clear hc
      have HAT := Lib.hid hat
      have HCS := Lib.hid hcs
      have HSZ := Lib.hid hsz
      clear hat hcs
      go_wp2_with fail
      go_roundw
      case rel =>
        refine ⟨k + 1, _, by omega, by go_num, HAT.out.set k _, by simp [HSZ.out], ?_, hb.setCell (Nat.le_refl _) _⟩
        intro j hj
        by_cases e : j = k
        · subst e; simp [HSZ.out, hlt]
        · rw [Array.getElem?_setIfInBounds_ne (by omega)]; exact HCS.out j (by omega)
      case measure => simp [intOf]; omega
    · have e : k = len := by omega
      subst e
      have HAT := Lib.hid hat
      have HCS := Lib.hid hcs
      have HSZ := Lib.hid hsz
      clear hat hcs hsz
      go_wp2_with fail
      go_ret
      exact ⟨cs, rfl, HAT.out, HSZ.out, HCS.out, hb⟩

theorem copyU_any (a : Option Addr) (len cap : Nat) (zs : List Int) (w : World) (h : IsRow .u16 w a len cap zs) (hlen : len ≤ 1048576) :
    Calls Try.prog 13 #[.slice a len cap] w (Cloned .u16 a len zs w) := by
  rcases h with ⟨rfl, rfl, rfl, rfl⟩ | ⟨x, rfl, hl, hm, hz, hcell, hwz⟩
  · refine (copyU_nil w).mono ?_
    rintro e w' ⟨rfl, rfl⟩
    exact ⟨none, 0, rfl, Iff.rfl, ⟨by simp, fun h => absurd h (by omega)⟩, Below.refl _ _⟩
  · refine (copyU_some x len cap zs w (by omega) hcell hlen).mono ?_
    rintro e w' ⟨cs, rfl, hat, hsz, hcs, hb⟩
    exact ⟨_, _, rfl, by simp, ⟨by omega, fun _ => ⟨w.heap.size, 0, rfl, fun i hi => by rw [hat.cell, Nat.zero_add]; exact hcs i hi⟩⟩, hb⟩

set_option maxRecDepth 100000 in
theorem bytes_yes (k : Int) (b : Bool) (x : Nat) (a : Option Addr) (len cap : Nat) (big : ByteArray) (loc : Int) (w : World) (h1 : len ≤ 1048576) (h2 : big.size ≤ 1048576) (h3 : len + big.size ≤ 1048576) :
    Calls Try.prog 12 #[.int .u8 k, .bool b, .float .f64 x, .slice a len cap, .string big, .int .i32 loc] w fun e w' => e = .returned (.bool true) ∧ w = w' := by
  go_enter Try.func12, Try.ntmps12
  go_wp2_with fail
  go_ret
  exact ⟨rfl, rfl⟩
def Some2 (w : World) (e : Ending) (w' : World) : Prop := (e = .returned (.bool true) ∨ e = .returned (.bool false)) ∧ w = w'
end Go.Proofs.YtonhekaakddneaaRRR.fnNotLeafTable
