/- Proved here: contracts of the functions that build and look through a chain of wrapper nodes (extractNumericValue, extractStringValue and the laws' own helpers). Conditions: the nodes' cells, as stated. -/
import Derived.Test.YtaipmmfkideobaaClone
import Derived.WalkKit
import Derived.WalkSpells
import Derived.WalkLawsBesides
import Derived.Lib.Hide
import Derived.Lib.SliceRun
namespace Go.Proofs.Ytaipmmfkideobaa
open Go.RowKit
set_option linter.unusedSimpArgs false
set_option linter.unusedVariables false

def Leaf (w : World) (n f : Nat) (u d : Value) : Prop :=
  (n = 0 ∧ ∃ b, d = .iface 79 (.pointer (some ⟨b, 0, none⟩)) ∧ w.cell? ⟨b, 0, none⟩ = some (.float .f64 f)) ∨
  (n = 1 ∧ ∃ b, d = .iface 82 (.pointer (some ⟨b, 0, none⟩)) ∧ w.cell? ⟨b, 0, none⟩ = some u) ∨
  (2 ≤ n ∧ (d = .nilIface ∨ ∃ t v, d = .iface t v ∧ t ≠ 69 ∧ t ≠ 107 ∧ t ≠ 79 ∧ t ≠ 82))
/-- d is the chain of wrappers cs (the outermost first) round a leaf. -/
def Chain (w : World) (n f : Nat) (u : Value) : List Int → Value → Prop
  | [], d => Leaf w n f u d
  | c :: cs, d => (c % 5 = 0 ∧ ∃ b d', d = .iface 69 (.pointer (some ⟨b, 0, none⟩)) ∧ w.cell? ⟨b, 0, none⟩ = some d' ∧ Chain w n f u cs d') ∨
    (c % 5 = 1 ∧ ∃ b d', d = .iface 107 (.pointer (some ⟨b, 0, none⟩)) ∧ w.cell? ⟨b, 0, none⟩ = some d' ∧ Chain w n f u cs d') ∨
    (1 < c % 5 ∧ ∃ t v, d = .iface t v ∧ t ≠ 69 ∧ t ≠ 107 ∧ t ≠ 79 ∧ t ≠ 82)
theorem Leaf.below {w w' : World} {n f : Nat} {u d : Value} (h : Leaf w n f u d) (hb : Below w.heap.size w w') : Leaf w' n f u d := by
  rcases h with ⟨rfl, b, e, hc⟩ | ⟨rfl, b, e, hc⟩ | h
  · exact Or.inl ⟨rfl, b, e, kept hb hc⟩
  · exact Or.inr (Or.inl ⟨rfl, b, e, kept hb hc⟩)
  · exact Or.inr (Or.inr h)
theorem Chain.below {w w' : World} {n f : Nat} {u : Value} (hb : Below w.heap.size w w') : ∀ {cs : List Int} {d : Value}, Chain w n f u cs d → Chain w' n f u cs d
  | [], _, h => Leaf.below h hb
  | _ :: _, _, h => by
    rcases h with ⟨hc, b, d', e, h1, h2⟩ | ⟨hc, b, d', e, h1, h2⟩ | h
    · exact Or.inl ⟨hc, b, d', e, kept hb h1, Chain.below hb h2⟩
    · exact Or.inr (Or.inl ⟨hc, b, d', e, kept hb h1, Chain.below hb h2⟩)
    · exact Or.inr (Or.inr h)
def tr (cs : List Int) : Bool := cs.all fun c => decide (c % 5 ≤ 1)
def numOf (cs : List Int) (n : Nat) : Bool := tr cs && n == 0
def strOf (cs : List Int) (n : Nat) : Bool := tr cs && n == 1
def NumPost (b : Bool) (f : Nat) (w : World) (e : Ending) (w' : World) : Prop := e = .returned (.tuple #[.float .f64 (if b then f else 0), .bool b]) ∧ w = w'
def StrPost (b : Bool) (u : Value) (w : World) (e : Ending) (w' : World) : Prop := e = .returned (.tuple #[if b then u else .slice none 0 0, .bool b]) ∧ w = w'
theorem tr_cons (c : Int) (cs : List Int) (h : c % 5 ≤ 1) : tr (c :: cs) = tr cs := by simp [tr, h]
theorem tr_stop (c : Int) (cs : List Int) (h : 1 < c % 5) : tr (c :: cs) = false := by
  have : ¬ c % 5 ≤ 1 := by omega
  simp [tr, this]

set_option maxRecDepth 100000 in
set_option maxHeartbeats 1000000 in
theorem num_yes (w : World) (b : Nat) (f : Nat) (hc : w.cell? ⟨b, 0, none⟩ = some (.float .f64 f)) :
    Calls Try.prog 38 #[.iface 79 (.pointer (some ⟨b, 0, none⟩))] w fun e w' => e = .returned (.tuple #[.float .f64 f, .bool true]) ∧ w = w' := by
  go_enter Try.func38, Try.ntmps38
  go_wp2_with fail
  go_ret2
  exact ⟨rfl, rfl⟩
set_option maxRecDepth 100000 in
set_option maxHeartbeats 1000000 in
theorem num_nil (w : World) :
    Calls Try.prog 38 #[.nilIface] w fun e w' => e = .returned (.tuple #[.float .f64 0, .bool false]) ∧ w = w' := by
  go_enter Try.func38, Try.ntmps38
  go_wp2_with fail
  go_ret2
  exact ⟨rfl, rfl⟩
set_option maxRecDepth 100000 in
set_option maxHeartbeats 1000000 in
theorem num_no (t : TypeId) (v : Value) (w : World) (n1 : ¬ t = 69) (n2 : ¬ t = 107) (n3 : ¬ t = 79) :
    Calls Try.prog 38 #[.iface t v] w fun e w' => e = .returned (.tuple #[.float .f64 0, .bool false]) ∧ w = w' := by
  go_enter Try.func38, Try.ntmps38
  go_wp2_with fail
  go_ret2
  exact ⟨rfl, rfl⟩

set_option maxRecDepth 100000 in
set_option maxHeartbeats 1000000 in
theorem num_ann (b : Nat) (d : Value) (r : Value) (ok : Bool) (w : World) (hc : w.cell? ⟨b, 0, none⟩ = some d) (ih : Calls Try.prog 38 #[d] w fun e w' => e = .returned (.tuple #[r, .bool ok]) ∧ w = w') :
    Calls Try.prog 38 #[.iface 69 (.pointer (some ⟨b, 0, none⟩))] w fun e w' => e = .returned (.tuple #[r, .bool ok]) ∧ w = w' := by
  have IH := Lib.hid ih
  clear ih
  go_enter Try.func38, Try.ntmps38
  go_wp2_with (first | (go_at_call 38; refine IH.out.mono ?_; rintro e w' ⟨rfl, rfl⟩))
  go_ret2
  exact ⟨rfl, rfl⟩

set_option maxRecDepth 100000 in
set_option maxHeartbeats 1000000 in
theorem num_enum (b : Nat) (d : Value) (r : Value) (ok : Bool) (w : World) (hc : w.cell? ⟨b, 0, none⟩ = some d) (ih : Calls Try.prog 38 #[d] w fun e w' => e = .returned (.tuple #[r, .bool ok]) ∧ w = w') :
    Calls Try.prog 38 #[.iface 107 (.pointer (some ⟨b, 0, none⟩))] w fun e w' => e = .returned (.tuple #[r, .bool ok]) ∧ w = w' := by
  have IH := Lib.hid ih
  clear ih
  go_enter Try.func38, Try.ntmps38
  go_wp2_with (first | (go_at_call 38; refine IH.out.mono ?_; rintro e w' ⟨rfl, rfl⟩))
  go_ret2
  exact ⟨rfl, rfl⟩

theorem num_any (w : World) (n f : Nat) (a : Option Addr) (len cap : Nat) : ∀ (cs : List Int) (d : Value), Chain w n f (.slice a len cap) cs d →
    Calls Try.prog 38 #[d] w (NumPost (numOf cs n) f w)
  | [], d, h => by
    rcases h with ⟨rfl, b, rfl, hc⟩ | ⟨rfl, b, rfl, hc⟩ | ⟨hn, rfl | ⟨t, v, rfl, n1, n2, n3, n4⟩⟩
    · exact num_yes w b f hc
    · exact num_no 82 _ w (by decide) (by decide) (by decide)
    · have e : numOf [] n = false := by simp [numOf, tr]; omega
      rw [e]; exact num_nil w
    · have e : numOf [] n = false := by simp [numOf, tr]; omega
      rw [e]; exact num_no t v w n1 n2 n3
  | c :: cs, d, h => by
    rcases h with ⟨hc, b, d', rfl, h1, h2⟩ | ⟨hc, b, d', rfl, h1, h2⟩ | ⟨hc, t, v, rfl, n1, n2, n3, n4⟩
    · have e : numOf (c :: cs) n = numOf cs n := by simp only [numOf]; rw [tr_cons c cs (by omega)]
      rw [e]; exact num_ann b d' _ _ w h1 (num_any w n f a len cap cs d' h2)
    · have e : numOf (c :: cs) n = numOf cs n := by simp only [numOf]; rw [tr_cons c cs (by omega)]
      rw [e]; exact num_enum b d' _ _ w h1 (num_any w n f a len cap cs d' h2)
    · have e : numOf (c :: cs) n = false := by simp only [numOf]; rw [tr_stop c cs hc]; rfl
      rw [e]; exact num_no t v w n1 n2 n3

set_option maxRecDepth 100000 in
set_option maxHeartbeats 1000000 in
theorem str_yes (w : World) (b : Nat) (a : Option Addr) (len cap : Nat) (hc : w.cell? ⟨b, 0, none⟩ = some (.slice a len cap)) :
    Calls Try.prog 39 #[.iface 82 (.pointer (some ⟨b, 0, none⟩))] w fun e w' => e = .returned (.tuple #[.slice a len cap, .bool true]) ∧ w = w' := by
  go_enter Try.func39, Try.ntmps39
  go_wp2_with fail
  go_ret2
  exact ⟨rfl, rfl⟩
set_option maxRecDepth 100000 in
set_option maxHeartbeats 1000000 in
theorem str_nil (w : World) :
    Calls Try.prog 39 #[.nilIface] w fun e w' => e = .returned (.tuple #[.slice none 0 0, .bool false]) ∧ w = w' := by
  go_enter Try.func39, Try.ntmps39
  go_wp2_with fail
  go_ret2
  exact ⟨rfl, rfl⟩
set_option maxRecDepth 100000 in
set_option maxHeartbeats 1000000 in
theorem str_no (t : TypeId) (v : Value) (w : World) (n1 : ¬ t = 69) (n2 : ¬ t = 107) (n3 : ¬ t = 82) :
    Calls Try.prog 39 #[.iface t v] w fun e w' => e = .returned (.tuple #[.slice none 0 0, .bool false]) ∧ w = w' := by
  go_enter Try.func39, Try.ntmps39
  go_wp2_with fail
  go_ret2
  exact ⟨rfl, rfl⟩

set_option maxRecDepth 100000 in
set_option maxHeartbeats 1000000 in
theorem str_ann (b : Nat) (d : Value) (r : Value) (ok : Bool) (w : World) (hc : w.cell? ⟨b, 0, none⟩ = some d) (ih : Calls Try.prog 39 #[d] w fun e w' => e = .returned (.tuple #[r, .bool ok]) ∧ w = w') :
    Calls Try.prog 39 #[.iface 69 (.pointer (some ⟨b, 0, none⟩))] w fun e w' => e = .returned (.tuple #[r, .bool ok]) ∧ w = w' := by
  have IH := Lib.hid ih
  clear ih
  go_enter Try.func39, Try.ntmps39
  go_wp2_with (first | (go_at_call 39; refine IH.out.mono ?_; rintro e w' ⟨rfl, rfl⟩))
  go_ret2
  exact ⟨rfl, rfl⟩

set_option maxRecDepth 100000 in
set_option maxHeartbeats 1000000 in
theorem str_enum (b : Nat) (d : Value) (r : Value) (ok : Bool) (w : World) (hc : w.cell? ⟨b, 0, none⟩ = some d) (ih : Calls Try.prog 39 #[d] w fun e w' => e = .returned (.tuple #[r, .bool ok]) ∧ w = w') :
    Calls Try.prog 39 #[.iface 107 (.pointer (some ⟨b, 0, none⟩))] w fun e w' => e = .returned (.tuple #[r, .bool ok]) ∧ w = w' := by
  have IH := Lib.hid ih
  clear ih
  go_enter Try.func39, Try.ntmps39
  go_wp2_with (first | (go_at_call 39; refine IH.out.mono ?_; rintro e w' ⟨rfl, rfl⟩))
  go_ret2
  exact ⟨rfl, rfl⟩

theorem str_any (w : World) (n f : Nat) (a : Option Addr) (len cap : Nat) : ∀ (cs : List Int) (d : Value), Chain w n f (.slice a len cap) cs d →
    Calls Try.prog 39 #[d] w (StrPost (strOf cs n) (.slice a len cap) w)
  | [], d, h => by
    rcases h with ⟨rfl, b, rfl, hc⟩ | ⟨rfl, b, rfl, hc⟩ | ⟨hn, rfl | ⟨t, v, rfl, n1, n2, n3, n4⟩⟩
    · exact str_no 79 _ w (by decide) (by decide) (by decide)
    · exact str_yes w b a len cap hc
    · have e : strOf [] n = false := by simp [strOf, tr]; omega
      rw [e]; exact str_nil w
    · have e : strOf [] n = false := by simp [strOf, tr]; omega
      rw [e]; exact str_no t v w n1 n2 n4
  | c :: cs, d, h => by
    rcases h with ⟨hc, b, d', rfl, h1, h2⟩ | ⟨hc, b, d', rfl, h1, h2⟩ | ⟨hc, t, v, rfl, n1, n2, n3, n4⟩
    · have e : strOf (c :: cs) n = strOf cs n := by simp only [strOf]; rw [tr_cons c cs (by omega)]
      rw [e]; exact str_ann b d' _ _ w h1 (str_any w n f a len cap cs d' h2)
    · have e : strOf (c :: cs) n = strOf cs n := by simp only [strOf]; rw [tr_cons c cs (by omega)]
      rw [e]; exact str_enum b d' _ _ w h1 (str_any w n f a len cap cs d' h2)
    · have e : strOf (c :: cs) n = false := by simp only [strOf]; rw [tr_stop c cs hc]; rfl
      rw [e]; exact str_no t v w n1 n2 n4
end Go.Proofs.Ytaipmmfkideobaa
