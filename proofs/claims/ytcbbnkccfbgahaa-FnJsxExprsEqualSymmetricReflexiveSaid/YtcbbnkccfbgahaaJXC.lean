/- Proved here: contracts of CheckEqualityIfNoSideEffects and ValuesLookTheSame at null, undefined and the booleans, of jsxExprsEqual, of zzDefine. Conditions: the cells as stated. -/
import Derived.Test.YtcbbnkccfbgahaaJXB
import Derived.WalkKit
import Derived.WalkSpells
import Derived.WalkLawsBesides
import Derived.Lib.Hide
import Derived.Lib.SliceRun
import Derived.Deep.RegionWith
import Derived.Deep.QuietTactic
import Derived.BigQuiet
namespace Go.Proofs.Ytcbbnkccfbgahaa
open Go.RowKit
set_option linter.unusedSimpArgs false
set_option linter.unusedVariables false

/-- v is the constant number k: 0 none, 1 null, 2 undefined, 3 false, 4 true. -/
def CV (w : World) (k : Nat) (v : Value) : Prop :=
  (k = 0 ∧ v = .nilIface) ∨ (k = 1 ∧ ∃ p, v = .iface 91 p) ∨ (k = 2 ∧ ∃ p, v = .iface 94 p) ∨ (∃ (b : Bool) (g : Nat), k = (if b then 4 else 3) ∧ v = .iface 96 (.pointer (some ⟨g, 0, none⟩)) ∧ w.cell? ⟨g, 0, none⟩ = some (.bool b))
theorem CV.below {w w' : World} {k : Nat} {v : Value} (h : CV w k v) (hb : Below w.heap.size w w') : CV w' k v := by
  rcases h with h | h | h | ⟨b, g, h1, h2, h3⟩
  · exact .inl h
  · exact .inr (.inl h)
  · exact .inr (.inr (.inl h))
  · exact .inr (.inr (.inr ⟨b, g, h1, h2, kept hb h3⟩))
def TwoB (b c : Bool) (w : World) (e : Ending) (w' : World) : Prop := e = .returned (.tuple #[.bool b, .bool c]) ∧ Below w.heap.size w w'
def OneB (b : Bool) (w : World) (e : Ending) (w' : World) : Prop := e = .returned (.bool b) ∧ Below w.heap.size w w'
set_option maxRecDepth 100000 in
theorem prim_bool (p : Value) (w : World) : Calls Try.prog 76 #[.iface 96 p] w fun e w' => e = .returned (.bool true) ∧ w = w' := by
  go_enter Try.func76, Try.ntmps76
  go_wp2_with fail
  go_ret
  exact ⟨rfl, rfl⟩
set_option maxRecDepth 100000 in
set_option maxHeartbeats 4000000 in
theorem check_any (k1 k2 : Nat) (v1 v2 : Value) (w : World) (h1 : CV w k1 v1) (h2 : CV w k2 v2) (n1 : 1 ≤ k1) (n2 : 1 ≤ k2) :
    Calls Try.prog 69 #[v1, v2, .int .u8 1] w (TwoB (decide (k1 = k2)) true w) := by
  rcases h1 with ⟨rfl, rfl⟩ | ⟨rfl, p, rfl⟩ | ⟨rfl, p, rfl⟩ | ⟨b, g, rfl, rfl, c1⟩
  · omega
  · rcases h2 with ⟨rfl, rfl⟩ | ⟨rfl, q, rfl⟩ | ⟨rfl, q, rfl⟩ | ⟨b2, g2, rfl, rfl, c2⟩
    · omega
    · go_enter Try.func69, Try.ntmps69
      go_wp2_with fail
      go_ret2
      exact ⟨rfl, Below.refl _ _⟩
    · go_enter Try.func69, Try.ntmps69
      go_wp2_with fail
      go_ret2
      exact ⟨rfl, Below.refl _ _⟩
    · have E := Lib.hid (show decide (1 = (if b2 then 4 else 3)) = false by cases b2 <;> rfl)
      rw [E.out]
      clear n1 n2
      go_enter Try.func69, Try.ntmps69
      go_wp2_with (go_at_call 76; refine (prim_bool _ _).mono ?_; rintro e w' ⟨rfl, rfl⟩)
      go_ret2
      exact ⟨rfl, Below.refl _ _⟩
  · rcases h2 with ⟨rfl, rfl⟩ | ⟨rfl, q, rfl⟩ | ⟨rfl, q, rfl⟩ | ⟨b2, g2, rfl, rfl, c2⟩
    · omega
    · go_enter Try.func69, Try.ntmps69
      go_wp2_with fail
      go_ret2
      exact ⟨rfl, Below.refl _ _⟩
    · go_enter Try.func69, Try.ntmps69
      go_wp2_with fail
      go_ret2
      exact ⟨rfl, Below.refl _ _⟩
    · have E := Lib.hid (show decide (2 = (if b2 then 4 else 3)) = false by cases b2 <;> rfl)
      rw [E.out]
      clear n1 n2
      go_enter Try.func69, Try.ntmps69
      go_wp2_with (go_at_call 76; refine (prim_bool _ _).mono ?_; rintro e w' ⟨rfl, rfl⟩)
      go_ret2
      exact ⟨rfl, Below.refl _ _⟩
  · rcases h2 with ⟨rfl, rfl⟩ | ⟨rfl, q, rfl⟩ | ⟨rfl, q, rfl⟩ | ⟨b2, g2, rfl, rfl, c2⟩
    · omega
    · have E := Lib.hid (show decide ((if b then 4 else 3) = 1) = false by cases b <;> rfl)
      rw [E.out]
      clear n1 n2
      go_enter Try.func69, Try.ntmps69
      go_wp2_with fail
      go_ret2
      exact ⟨rfl, Below.refl _ _⟩
    · have E := Lib.hid (show decide ((if b then 4 else 3) = 2) = false by cases b <;> rfl)
      rw [E.out]
      clear n1 n2
      go_enter Try.func69, Try.ntmps69
      go_wp2_with fail
      go_ret2
      exact ⟨rfl, Below.refl _ _⟩
    · have E := Lib.hid (show decide ((if b then 4 else 3) = (if b2 then 4 else 3)) = (b == b2) by cases b <;> cases b2 <;> rfl)
      rw [E.out]
      clear n1 n2
      go_enter Try.func69, Try.ntmps69
      go_wp2_with fail
      go_quiet (fail)
      go_wp2_with fail
      go_ret2
      exact ⟨rfl, below_drewN (Below.refl _ _) _⟩

set_option maxRecDepth 100000 in
set_option maxHeartbeats 4000000 in
theorem vls_any (k1 k2 : Nat) (v1 v2 : Value) (w : World) (h1 : CV w k1 v1) (h2 : CV w k2 v2) (n1 : 1 ≤ k1) (n2 : 1 ≤ k2) :
    Calls Try.prog 49 #[v1, v2] w (OneB (decide (k1 = k2)) w) := by
  have C := Lib.hid (check_any k1 k2 v1 v2 w h1 h2 n1 n2)
  obtain ⟨B, hB⟩ : ∃ B, B = decide (k1 = k2) := ⟨_, rfl⟩
  rw [← hB] at C ⊢
  clear hB
  have s1 : (∃ p, v1 = .iface 91 p) ∨ (∃ p, v1 = .iface 94 p) ∨ (∃ p, v1 = .iface 96 p) := by
    rcases h1 with ⟨rfl, rfl⟩ | ⟨rfl, p, rfl⟩ | ⟨rfl, p, rfl⟩ | ⟨b, g, rfl, rfl, c1⟩
    · omega
    · exact .inl ⟨_, rfl⟩
    · exact .inr (.inl ⟨_, rfl⟩)
    · exact .inr (.inr ⟨_, rfl⟩)
  have s2 : (∃ p, v2 = .iface 91 p) ∨ (∃ p, v2 = .iface 94 p) ∨ (∃ p, v2 = .iface 96 p) := by
    rcases h2 with ⟨rfl, rfl⟩ | ⟨rfl, p, rfl⟩ | ⟨rfl, p, rfl⟩ | ⟨b, g, rfl, rfl, c1⟩
    · omega
    · exact .inl ⟨_, rfl⟩
    · exact .inr (.inl ⟨_, rfl⟩)
    · exact .inr (.inr ⟨_, rfl⟩)
  clear h1 h2 n1 n2
  rcases s1 with ⟨p, rfl⟩ | ⟨p, rfl⟩ | ⟨p, rfl⟩
  all_goals
    rcases s2 with ⟨q, rfl⟩ | ⟨q, rfl⟩ | ⟨q, rfl⟩
    all_goals
      go_enter Try.func49, Try.ntmps49
      go_wp2_with fail
      refine C.out.mono ?_
      rintro e w1 ⟨rfl, hb⟩
      go_wp2_with fail
      go_ret
      exact ⟨rfl, hb⟩
end Go.Proofs.Ytcbbnkccfbgahaa
