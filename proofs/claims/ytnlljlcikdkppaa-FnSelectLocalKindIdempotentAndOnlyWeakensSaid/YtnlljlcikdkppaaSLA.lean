/- Proved here: the contracts of the functions of the law FnSelectLocalKindIdempotentAndOnlyWeakens. Conditions as stated. -/
import Derived.Test.YtnlljlcikdkppaaBase
import Derived.WalkKit
import Derived.WalkSpells
import Derived.WalkLawsBesides
import Derived.Lib.Hide
import Derived.Lib.SliceRun
import Derived.Deep.RegionWith
import Derived.OwnWalk
import Derived.Laws.OwnMore
namespace Go.Proofs.Ytnlljlcikdkppaa
open Go.RowKit
set_option linter.unusedSimpArgs false
set_option linter.unusedVariables false

def hasB (f : Int) : Bool := bits .and .u64 f 131072 != 0
theorem has (f : Int) (w : World) : Calls Try.prog 7 #[.int .u64 f, .int .u64 131072] w fun e w' => e = .returned (.bool (hasB f)) ∧ w = w' := by
  go_enter Try.func7, Try.ntmps7
  go_wp2_with fail
  go_ret
  first | exact ⟨rfl, rfl⟩ | (trace_state; exact ⟨by simp [hasB], rfl⟩)
/-- The kind that selectLocalKind takes. -/
def kS (k : Int) (h m2 mini wrap pnil : Bool) : Int :=
  if k = 1 then (if h then 0 else if pnil && (m2 || wrap) then 0 else 1)
  else if k = 2 then (if h then 0 else if pnil && (m2 || wrap) then 0 else if m2 && mini then 1 else 2)
  else k

set_option maxRecDepth 100000 in
set_option maxHeartbeats 8000000 in
theorem sel1 (f mode : Int) (mini wrap : Bool) (b c : Nat) (v : Option Addr) (w : World) 
    (h23 : w.cell? ⟨b, 23, none⟩ = some (.int .u64 f)) (h34 : w.cell? ⟨b, 34, none⟩ = some (.int .u8 mode)) (h41 : w.cell? ⟨b, 41, none⟩ = some (.bool mini)) (h352 : w.cell? ⟨b, 352, none⟩ = some (.bool wrap)) (h104 : w.cell? ⟨b, 104, none⟩ = some (.pointer (some ⟨c, 0, none⟩))) (hp : w.cell? ⟨c, 1, none⟩ = some (.pointer v)) :
    Calls Try.prog 6 #[.pointer (some ⟨b, 0, none⟩), .int .u8 1] w fun e w' => e = .returned (.int .u8 (kS 1 (hasB f) (decide (mode = 2)) mini wrap v.isNone)) ∧ w = w' := by

  rcases v with _ | v <;> by_cases hm : mode = 2 <;> rcases mini with _ | _ <;> rcases wrap with _ | _ <;> (have HR := Lib.hid (show ∀ W, Calls Try.prog 7 #[.int .u64 f, .int .u64 131072] W (fun e w' => e = .returned (.bool (hasB f)) ∧ W = w') from fun W => has f W); generalize hasB f = r at HR ⊢; cases r)
  all_goals
    try subst hm
    try have hmb : (mode == 2) = false := by simpa using hm
    go_enter Try.func6, Try.ntmps6
    go_wp2_with fail
    refine (HR.out _).mono ?_
    rintro e w1 ⟨rfl, rfl⟩
    go_wp2_with fail
    go_ret
    first | exact ⟨rfl, rfl⟩ | (refine ⟨?_, rfl⟩; simp [kS, *])

set_option maxRecDepth 100000 in
set_option maxHeartbeats 8000000 in
theorem sel2 (f mode : Int) (mini wrap : Bool) (b c : Nat) (v : Option Addr) (w : World) 
    (h23 : w.cell? ⟨b, 23, none⟩ = some (.int .u64 f)) (h34 : w.cell? ⟨b, 34, none⟩ = some (.int .u8 mode)) (h41 : w.cell? ⟨b, 41, none⟩ = some (.bool mini)) (h352 : w.cell? ⟨b, 352, none⟩ = some (.bool wrap)) (h104 : w.cell? ⟨b, 104, none⟩ = some (.pointer (some ⟨c, 0, none⟩))) (hp : w.cell? ⟨c, 1, none⟩ = some (.pointer v)) :
    Calls Try.prog 6 #[.pointer (some ⟨b, 0, none⟩), .int .u8 2] w fun e w' => e = .returned (.int .u8 (kS 2 (hasB f) (decide (mode = 2)) mini wrap v.isNone)) ∧ w = w' := by

  rcases v with _ | v <;> by_cases hm : mode = 2 <;> rcases mini with _ | _ <;> rcases wrap with _ | _ <;> (have HR := Lib.hid (show ∀ W, Calls Try.prog 7 #[.int .u64 f, .int .u64 131072] W (fun e w' => e = .returned (.bool (hasB f)) ∧ W = w') from fun W => has f W); generalize hasB f = r at HR ⊢; cases r)
  all_goals
    try subst hm
    try have hmb : (mode == 2) = false := by simpa using hm
    go_enter Try.func6, Try.ntmps6
    go_wp2_with fail
    refine (HR.out _).mono ?_
    rintro e w1 ⟨rfl, rfl⟩
    go_wp2_with fail
    go_ret
    first | exact ⟨rfl, rfl⟩ | (refine ⟨?_, rfl⟩; simp [kS, *])

set_option maxRecDepth 100000 in
set_option maxHeartbeats 8000000 in
theorem selO (k f mode : Int) (mini wrap : Bool) (b c : Nat) (v : Option Addr) (w : World) (hk1 : k ≠ 1) (hk2 : k ≠ 2)
    (h23 : w.cell? ⟨b, 23, none⟩ = some (.int .u64 f)) (h34 : w.cell? ⟨b, 34, none⟩ = some (.int .u8 mode)) (h41 : w.cell? ⟨b, 41, none⟩ = some (.bool mini)) (h352 : w.cell? ⟨b, 352, none⟩ = some (.bool wrap)) (h104 : w.cell? ⟨b, 104, none⟩ = some (.pointer (some ⟨c, 0, none⟩))) (hp : w.cell? ⟨c, 1, none⟩ = some (.pointer v)) :
    Calls Try.prog 6 #[.pointer (some ⟨b, 0, none⟩), .int .u8 k] w fun e w' => e = .returned (.int .u8 (kS k (hasB f) (decide (mode = 2)) mini wrap v.isNone)) ∧ w = w' := by
  have e1 : (k == 1) = false := by simpa using hk1
  have e2 : (k == 2) = false := by simpa using hk2
  rcases v with _ | v <;> by_cases hm : mode = 2 <;> rcases mini with _ | _ <;> rcases wrap with _ | _ <;> (have HR := Lib.hid (show ∀ W, Calls Try.prog 7 #[.int .u64 f, .int .u64 131072] W (fun e w' => e = .returned (.bool (hasB f)) ∧ W = w') from fun W => has f W); generalize hasB f = r at HR ⊢; cases r)
  all_goals
    try subst hm
    try have hmb : (mode == 2) = false := by simpa using hm
    go_enter Try.func6, Try.ntmps6
    go_wp2_with fail
    go_ret
    first | exact ⟨rfl, rfl⟩ | (refine ⟨?_, rfl⟩; simp [kS, *])

theorem sel (k f mode : Int) (mini wrap : Bool) (b c : Nat) (v : Option Addr) (w : World)
    (h23 : w.cell? ⟨b, 23, none⟩ = some (.int .u64 f)) (h34 : w.cell? ⟨b, 34, none⟩ = some (.int .u8 mode)) (h41 : w.cell? ⟨b, 41, none⟩ = some (.bool mini)) (h352 : w.cell? ⟨b, 352, none⟩ = some (.bool wrap)) (h104 : w.cell? ⟨b, 104, none⟩ = some (.pointer (some ⟨c, 0, none⟩))) (hp : w.cell? ⟨c, 1, none⟩ = some (.pointer v)) :
    Calls Try.prog 6 #[.pointer (some ⟨b, 0, none⟩), .int .u8 k] w fun e w' => e = .returned (.int .u8 (kS k (hasB f) (decide (mode = 2)) mini wrap v.isNone)) ∧ w = w' := by
  by_cases h1 : k = 1
  · subst h1
    exact sel1 f mode mini wrap b c v w h23 h34 h41 h352 h104 hp
  · by_cases h2 : k = 2
    · subst h2
      exact sel2 f mode mini wrap b c v w h23 h34 h41 h352 h104 hp
    · exact selO k f mode mini wrap b c v w h1 h2 h23 h34 h41 h352 h104 hp
end Go.Proofs.Ytnlljlcikdkppaa
