/- Proved here: the contract of b3Child, over any predicate on expressions that holds of none. Conditions: the row built so far, as stated. -/
import Derived.Test.YtjcblmbndkacgaaKPE
import Derived.WalkKit
import Derived.WalkSpells
import Derived.WalkLawsBesides
import Derived.Lib.Hide
import Derived.Lib.SliceRun
import Derived.Deep.RegionWith
import Derived.Deep.RegionHeld3
import Derived.Deep.DeepCutAuto
import Derived.Deep.QuietTactic
import Derived.BigQuiet
namespace Go.Proofs.Ytjcblmbndkacgaa
open Go.RowKit
set_option linter.unusedSimpArgs false
set_option linter.unusedVariables false

def IsI (v : Value) : Prop := v = .nilIface ∨ ∃ t b, v = .iface t (.pointer (some ⟨b, 0, none⟩))
/-- Entries i, i+1, .. of the row of expressions satisfy Φ in w; every entry's second cell is the location 0. -/
def Good (Φ : World → Value → Prop) (w : World) (cs : Array Value) (n i : Nat) : Prop := cs.size = n * 2 ∧ (∀ j, j < n → cs[j * 2 + 1]? = some (.int .i32 0)) ∧ ∀ j, i ≤ j → j < n → ∃ v, cs[j * 2]? = some v ∧ IsI v ∧ Φ w v
def ChP (Φ : World → Value → Prop) (W0 W : World) (e : Ending) (w' : World) : Prop := ∃ v, e = .returned (.agg #[v, .int .i32 0]) ∧ IsI v ∧ Φ W0 v ∧ Below W.heap.size W w'

set_option maxRecDepth 100000 in
set_option maxHeartbeats 4000000 in
theorem child (Φ : World → Value → Prop) (g n i : Nat) (c : Int) (cs : Array Value) (W0 w : World) (hnil : Φ W0 .nilIface) (hat : At w g 32 cs) (hg : Good Φ W0 cs n (i + 1)) (hn : n ≤ 1048576) (hi : i < n) (c0 : -2147483648 ≤ c) (c1 : c ≤ 2147483647) :
    Calls Try.prog 26 #[.int .i64 n, .slice (some ⟨g, 0, none⟩) n n, .int .i64 i, .int .i32 c] w (ChP Φ W0 w) := by
  have HAT := Lib.hid hat
  have HG := Lib.hid hg
  have HN := Lib.hid hnil
  have lg : g < w.heap.size := hat.lt
  have HC := Lib.hid (childOK n i c (w.alloc (.cells #[.nilIface, .int .i32 0] 32)) hn (by omega) c0 c1)
  clear hat hg hnil
  go_enter Try.func26, Try.ntmps26
  go_wp2_with fail
  refine HC.out.mono ?_
  rintro e w' ⟨b, hb, rfl, rfl⟩
  cases b
  · go_wp2_with fail
    exact bodyPost_ret (v := .agg #[.nilIface, .int .i32 0]) (by simp [results, Try.results26, go_sem, *]) rfl ⟨_, rfl, .inl rfl, HN.out, (by repeat (first | with_reducible exact Below.refl _ _ | (with_reducible refine Below.alloc ?_ (by simp; try omega) _) | (with_reducible refine Below.setCell ?_ (by simp; try omega) _)))⟩
  · obtain ⟨g1, g2⟩ := hb rfl
    obtain ⟨vn, rfl⟩ : ∃ vn : Nat, c = (vn : Int) := ⟨c.toNat, by omega⟩
    have lv : vn < n := by omega
    obtain ⟨v, hv, hI, hΦ⟩ := HG.out.2.2 vn (by omega) lv
    have hv2 := HG.out.2.1 vn lv
    have u0 : w.cell? ⟨g, vn * 2, none⟩ = some v := by rw [HAT.out.cell]; exact hv
    have u1 : w.cell? ⟨g, vn * 2 + 1, none⟩ = some (.int .i32 0) := by rw [HAT.out.cell]; exact hv2
    have v0 : (0 : Int) ≤ (vn : Int) := Int.natCast_nonneg _
    have PH := Lib.hid hΦ
    clear hΦ hv hv2 HC hb
    rcases hI with rfl | ⟨t, bb, rfl⟩
    · go_wp2_with fail
      exact bodyPost_ret (v := .agg #[.nilIface, .int .i32 0]) (by simp [results, Try.results26, go_sem, *]) rfl ⟨_, rfl, .inl rfl, PH.out, (by repeat (first | with_reducible exact Below.refl _ _ | (with_reducible refine Below.alloc ?_ (by simp; try omega) _) | (with_reducible refine Below.setCell ?_ (by simp; try omega) _)))⟩
    · go_wp2_with fail
      exact bodyPost_ret (v := .agg #[.iface t (.pointer (some ⟨bb, 0, none⟩)), .int .i32 0]) (by simp [results, Try.results26, go_sem, *]) rfl ⟨_, rfl, .inr ⟨t, bb, rfl⟩, PH.out, (by repeat (first | with_reducible exact Below.refl _ _ | (with_reducible refine Below.alloc ?_ (by simp; try omega) _) | (with_reducible refine Below.setCell ?_ (by simp; try omega) _)))⟩
end Go.Proofs.Ytjcblmbndkacgaa
