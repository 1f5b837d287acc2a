/- Proved here: contracts of the law's own helpers over the node list. Conditions as stated. -/
import Derived.Test.YtjcblmbndkacgaaKPA
import Derived.Test.YtjcblmbndkacgaaRecs
import Derived.WalkKit
import Derived.WalkSpells
import Derived.WalkLawsBesides
import Derived.Lib.Hide
import Derived.Lib.SliceRun
import Derived.Deep.RegionWith
import Derived.Deep.RegionHeld3
import Derived.Deep.DeepCutAuto
import Derived.Deep.QuietTactic
import Derived.BigQuiet
namespace Go.Proofs.Ytjcblmbndkacgaa
open Go.RowKit
set_option linter.unusedSimpArgs false
set_option linter.unusedVariables false

abbrev NSig : List (Value → Prop) := [KInt .u8, KInt .u8, KBool, KInt .u8, KInt .i32, KInt .i32, KInt .i32]
def Is (v : Value) (w : World) (e : Ending) (w' : World) : Prop := e = .returned v ∧ w = w'
def SomeBool (w : World) (e : Ending) (w' : World) : Prop := ∃ b, e = .returned (.bool b) ∧ w = w'
def SomeBoolB (w : World) (e : Ending) (w' : World) : Prop := ∃ b, e = .returned (.bool b) ∧ Below w.heap.size w w'
def ArP (w : World) (e : Ending) (w' : World) : Prop := ∃ m : Nat, m ≤ 3 ∧ e = .returned (.int .i64 m) ∧ w = w'
def CaP (a b c : Int) (w : World) (e : Ending) (w' : World) : Prop := ∃ x, (x = a ∨ x = b ∨ x = c) ∧ e = .returned (.int .i32 x) ∧ Below w.heap.size w w'
def CkP (n i : Nat) (c : Int) (w : World) (e : Ending) (w' : World) : Prop := ∃ b, (b = true → (i : Int) < c ∧ c < (n : Int)) ∧ e = .returned (.bool b) ∧ w = w'

set_option maxRecDepth 100000 in
set_option maxHeartbeats 4000000 in
theorem arity (k : Int) (w : World) : Calls Try.prog 23 #[.int .u8 k] w (ArP w) := by
  go_enter Try.func23, Try.ntmps23
  go_wp2_with fail
  all_goals
    go_ret
    first | exact ⟨0, by omega, rfl, rfl⟩ | exact ⟨1, by omega, rfl, rfl⟩ | exact ⟨2, by omega, rfl, rfl⟩ | exact ⟨3, by omega, rfl, rfl⟩

set_option maxRecDepth 100000 in
set_option maxHeartbeats 4000000 in
theorem childAt (k op ch a b c : Int) (f : Bool) (j : Nat) (w : World) : Calls Try.prog 24 #[.agg #[.int .u8 k, .int .u8 op, .bool f, .int .u8 ch, .int .i32 a, .int .i32 b, .int .i32 c], .int .i64 j] w (CaP a b c w) := by
  go_enter Try.func24, Try.ntmps24
  by_cases j0 : j = 0
  · subst j0
    go_wp2_with fail
    all_goals first | (exfalso; simp_all; done) | (go_ret; exact ⟨a, .inl rfl, rfl, (Below.refl _ _).alloc (Nat.le_refl _) _⟩)
  have e0 : ¬ (j : Int) = 0 := by omega
  by_cases j1 : j = 1
  · subst j1
    go_wp2_with fail
    all_goals first | (exfalso; simp_all; done) | (go_ret; exact ⟨b, .inr (.inl rfl), rfl, (Below.refl _ _).alloc (Nat.le_refl _) _⟩)
  have e1 : ¬ (j : Int) = 1 := by omega
  go_wp2_with fail
  all_goals first | (exfalso; simp_all; done) | (go_ret; exact ⟨c, .inr (.inr rfl), rfl, (Below.refl _ _).alloc (Nat.le_refl _) _⟩)

set_option maxRecDepth 100000 in
set_option maxHeartbeats 4000000 in
theorem childOK (n i : Nat) (c : Int) (w : World) (hn : n ≤ 1048576) (hi : i ≤ 1048576) (c0 : -2147483648 ≤ c) (c1 : c ≤ 2147483647) : Calls Try.prog 25 #[.int .i64 n, .int .i64 i, .int .i32 c] w (CkP n i c w) := by
  go_enter Try.func25, Try.ntmps25
  by_cases h : (i : Int) < c
  · have h1 : decide ((i : Int) < c) = true := by simpa using h
    go_wp2_with fail
    go_ret
    exact ⟨_, fun hb => ⟨h, by simpa using hb⟩, rfl, rfl⟩
  · have h1 : decide ((i : Int) < c) = false := by simpa using h
    go_wp2_with fail
    go_ret
    exact ⟨_, fun hb => by simp at hb, rfl, rfl⟩

set_option maxRecDepth 100000 in
set_option maxHeartbeats 4000000 in
theorem b7 (a : Option Addr) (n c : Nat) (w : World) (m : n ≤ 9223372036854775807) : Calls Try.prog 7 #[.slice a n c] w (SomeBool w) := by
  go_enter Try.func7, Try.ntmps7
  go_wp2_with fail
  all_goals (go_ret; exact ⟨_, rfl, rfl⟩)

set_option maxRecDepth 100000 in
set_option maxHeartbeats 4000000 in
theorem b13 (a : Option Addr) (n c : Nat) (a' : Option Addr) (n' c' : Nat) (w : World) (m : n ≤ 9223372036854775807) (m' : n' ≤ 9223372036854775807) : Calls Try.prog 13 #[.slice a n c, .slice a' n' c'] w (SomeBool w) := by
  go_enter Try.func13, Try.ntmps13
  go_wp2_with fail
  all_goals (try (go_ret; exact ⟨_, rfl, rfl⟩))

theorem IsRecs.at {w : World} {a : Option Addr} {len cap i : Nat} (h : IsRecs w a len cap NSig) (hi : i < len) : ∃ (B off : Nat) (k op : Int) (f : Bool) (ch x y z : Int), a = some ⟨B, off, none⟩ ∧ (w.cell? ⟨B, off + i * 7, none⟩ = some (.int .u8 k) ∧ w.cell? ⟨B, off + i * 7 + 1, none⟩ = some (.int .u8 op) ∧ w.cell? ⟨B, off + i * 7 + 2, none⟩ = some (.bool f) ∧ w.cell? ⟨B, off + i * 7 + 3, none⟩ = some (.int .u8 ch) ∧ w.cell? ⟨B, off + i * 7 + 4, none⟩ = some (.int .i32 x) ∧ w.cell? ⟨B, off + i * 7 + 5, none⟩ = some (.int .i32 y) ∧ w.cell? ⟨B, off + i * 7 + 6, none⟩ = some (.int .i32 z)) ∧ 0 ≤ k ∧ k ≤ 255 ∧ 0 ≤ op ∧ op ≤ 255 ∧ 0 ≤ ch ∧ ch ≤ 255 ∧ (-2147483648 ≤ x ∧ x ≤ 2147483647) ∧ (-2147483648 ≤ y ∧ y ≤ 2147483647) ∧ (-2147483648 ≤ z ∧ z ≤ 2147483647) := by
  rcases h with ⟨_, rfl, _⟩ | ⟨ad, rfl, hl, hm, hc⟩
  · omega
  · obtain ⟨B, off, rfl⟩ : ∃ B off, ad = ⟨B, off, none⟩ := by
      obtain ⟨v, hv, _⟩ := hc 0 (by omega) 0 _ rfl
      exact spot_none (by simpa using hv)
    obtain ⟨v0, h0, ⟨k, rfl, w0⟩⟩ := hc i hi 0 _ rfl
    obtain ⟨v1, h1, ⟨op, rfl, w1⟩⟩ := hc i hi 1 _ rfl
    obtain ⟨v2, h2, ⟨f, rfl⟩⟩ := hc i hi 2 _ rfl
    obtain ⟨v3, h3, ⟨ch, rfl, w3⟩⟩ := hc i hi 3 _ rfl
    obtain ⟨v4, h4, ⟨x, rfl, w4⟩⟩ := hc i hi 4 _ rfl
    obtain ⟨v5, h5, ⟨y, rfl, w5⟩⟩ := hc i hi 5 _ rfl
    obtain ⟨v6, h6, ⟨z, rfl, w6⟩⟩ := hc i hi 6 _ rfl
    rw [add_none] at h0 h1 h2 h3 h4 h5 h6
    simp only [NSig, List.length_cons, List.length_nil, Nat.zero_add, Nat.reduceAdd, Nat.add_zero, ← Nat.add_assoc] at h0 h1 h2 h3 h4 h5 h6
    simp [Lit.wf, IntKind.min, IntKind.max, IntKind.signed, IntKind.bits] at w0 w1 w3 w4 w5 w6
    exact ⟨B, off, k, op, f, ch, x, y, z, rfl, ⟨h0, h1, h2, h3, h4, h5, h6⟩, w0.1, w0.2, w1.1, w1.2, w3.1, w3.2, w4, w5, w6⟩
end Go.Proofs.Ytjcblmbndkacgaa
