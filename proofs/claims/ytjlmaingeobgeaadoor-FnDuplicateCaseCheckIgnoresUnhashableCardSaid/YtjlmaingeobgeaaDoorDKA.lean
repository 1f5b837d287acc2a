/- Proved here: the hash of a number. Conditions as stated. -/
import Derived.Test.YtjlmaingeobgeaaDoorBase
import Derived.WalkKit
import Derived.WalkSpells
import Derived.WalkLawsBesides
import Derived.Lib.Hide
import Derived.Lib.SliceRun
import Derived.Deep.RegionWith
import Derived.Laws.Externs
import Derived.OwnWalk
import Derived.Laws.OwnMore
import Derived.Laws.Closers25b
import Derived.Laws.BitsAllLaws
import Derived.Deep.QuietTactic
import Derived.BigQuiet
namespace Go.Proofs.YtjlmaingeobgeaaDoor
open Go.RowKit
set_option linter.unusedSimpArgs false
set_option linter.unusedVariables false

/-- A slice that reads as f at each index below len; nil where len is 0 is let in. -/
def RowV (w : World) (a : Option Addr) (len : Nat) (f : Nat → Value) : Prop :=
  0 < len → ∃ B off, a = some ⟨B, off, none⟩ ∧ ∀ i, i < len → w.cell? ⟨B, off + i, none⟩ = some (f i)
theorem RowV.below {w w' : World} {a : Option Addr} {len : Nat} {f : Nat → Value} (h : RowV w a len f) (hb : Below w.heap.size w w') : RowV w' a len f := fun hp => by
  obtain ⟨B, off, e, hc⟩ := h hp
  exact ⟨B, off, e, fun i hi => kept hb (hc i hi)⟩
def ClonedV (len : Nat) (f : Nat → Value) (w : World) (e : Ending) (w' : World) : Prop :=
  ∃ a' cap', e = .returned (.slice a' len cap') ∧ RowV w' a' len f ∧ Below w.heap.size w w'
theorem rowv_ints {k : IntKind} {w : World} {a : Option Addr} {len cap : Nat} {zs : List Int} (h : IsRow k w a len cap zs) : RowV w a len (fun i => .int k (zs.getD i 0)) := by
  intro hp
  rcases h with ⟨_, rfl, _⟩ | ⟨x, rfl, hl, hm, hz, hcell, _⟩
  · omega
  · obtain ⟨b, off, rfl⟩ := spot_none (hcell 0 (by omega))
    exact ⟨b, off, rfl, fun i hi => by rw [← add_none]; exact hcell i (by omega)⟩
theorem rowv_bools {w : World} {a : Option Addr} {len cap : Nat} {zs : List Bool} (h : IsBools w a len cap zs) : RowV w a len (fun i => .bool (zs.getD i false)) := by
  intro hp
  rcases h with ⟨_, rfl, _⟩ | ⟨x, rfl, hl, hm, hz, hcell⟩
  · omega
  · obtain ⟨b, off, rfl⟩ := spot_none (hcell 0 (by omega))
    exact ⟨b, off, rfl, fun i hi => by rw [← add_none]; exact hcell i (by omega)⟩
theorem rowv_strs {w : World} {a : Option Addr} {len cap : Nat} {zs : List ByteArray} (h : IsStrs w a len cap zs) : RowV w a len (fun i => .string (zs.getD i ByteArray.empty)) := by
  intro hp
  rcases h with ⟨_, rfl, _⟩ | ⟨x, rfl, hl, hm, hz, hcell, _⟩
  · omega
  · obtain ⟨b, off, rfl⟩ := spot_none (hcell 0 (by omega))
    exact ⟨b, off, rfl, fun i hi => by rw [← add_none]; exact hcell i (by omega)⟩
theorem len_ints {k : IntKind} {w : World} {a : Option Addr} {len cap : Nat} {zs : List Int} (h : IsRow k w a len cap zs) : len ≤ maxLen ∧ len ≤ zs.length ∧ ∀ i, (Lit.int k (zs.getD i 0)).wf = true ∨ zs.length ≤ i := by
  rcases h with ⟨_, rfl, _, rfl⟩ | ⟨x, rfl, hl, hm, hz, hcell, hw⟩
  · exact ⟨by unfold maxLen; omega, by simp, fun i => .inr (by simp)⟩
  · refine ⟨by omega, by omega, fun i => ?_⟩
    by_cases hi : i < zs.length
    · left; exact hw _ (by simp [List.getD, hi])
    · right; omega
theorem len_bools {w : World} {a : Option Addr} {len cap : Nat} {zs : List Bool} (h : IsBools w a len cap zs) : len ≤ maxLen := by
  rcases h with ⟨_, rfl, _, rfl⟩ | ⟨x, rfl, hl, hm, hz, hcell⟩
  · unfold maxLen; omega
  · omega
theorem len_strs {w : World} {a : Option Addr} {len cap : Nat} {zs : List ByteArray} (h : IsStrs w a len cap zs) : len ≤ maxLen ∧ ∀ i, (zs.getD i ByteArray.empty).size ≤ maxLen := by
  rcases h with ⟨_, rfl, _, rfl⟩ | ⟨x, rfl, hl, hm, hz, hcell, hw⟩
  · exact ⟨by unfold maxLen; omega, fun i => by simp⟩
  · refine ⟨by omega, fun i => ?_⟩
    by_cases hi : i < zs.length
    · exact hw _ (by simp [List.getD, hi])
    · simp [List.getD, hi]

theorem f64bits (b : Nat) (w : World) : (callFunc 74 #[.float .f64 b]).run Tryd.prog w = .ok (.value (.int .u64 b)) w := by
  rw [run_callFunc_extern (fn := Tryd.f74) (e := Go.Extern.MathFloatBits.float64bits) Tryd.func74 (by kernel_rfl) (by kernel_rfl) (by kernel_rfl) (by kernel_rfl)]
  rfl
def hc (a b : Int) : Int := bits .xor .u32 a ((b + 2654435769 + a * 64 + a / 4) % 4294967296)
theorem hc_range (a b : Int) : 0 ≤ hc a b ∧ hc a b ≤ 4294967295 := bits_within .xor .u32 _ _
theorem hcomb (a b : Int) (w : World) : Calls Tryd.prog 73 #[.int .u32 a, .int .u32 b] w fun e w' => e = .returned (.int .u32 (hc a b)) ∧ w = w' := by
  go_enter Tryd.func73, Tryd.ntmps73
  go_wp2_with fail
  go_ret
  exact ⟨rfl, rfl⟩
/-- The hash of a number. -/
def hN (x : Nat) : Int := hc (hc 3 ((x : Int) % 4294967296)) ((x : Int) / 4294967296)
theorem hN_range (x : Nat) : 0 ≤ hN x ∧ hN x ≤ 4294967295 := hc_range _ _
set_option maxRecDepth 100000 in
theorem hashN (p x : Nat) (w : World) (h : w.cell? ⟨p, 0, none⟩ = some (.float .f64 x)) (hx : x < 18446744073709551616) :
    Calls Tryd.prog 47 #[.agg #[.iface 212 (.pointer (some ⟨p, 0, none⟩)), .int .i32 0]] w fun e w' => e = .returned (.tuple #[.int .u32 (hN x), .bool true]) ∧ Below w.heap.size w w' := by
  have hd := f64bits
  have lp := World.block_lt_of_cell? _ _ h
  go_enter Tryd.func47, Tryd.ntmps47
  go_wp2_with fail
  refine (hcomb _ _ _).mono ?_
  rintro e w1 ⟨rfl, rfl⟩
  go_wp2_with fail
  refine (hcomb _ _ _).mono ?_
  rintro e w1 ⟨rfl, rfl⟩
  go_wp2_with fail
  go_ret2
  exact ⟨rfl, (by repeat (first | with_reducible exact Below.refl _ _ | (with_reducible refine Below.drew ?_) | (with_reducible refine Below.alloc ?_ (by simp; try omega) _) | (with_reducible refine Below.setCell ?_ (by simp; try omega) _)))⟩
end Go.Proofs.YtjlmaingeobgeaaDoor
