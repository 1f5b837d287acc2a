/- Proved here: the walk of the law FnIsOptionalChainCaseTable (IsOptionalChain over twenty built expression shapes), for every input. -/
import Derived.Test.YtckagihmmhlcaaaTA
import Derived.WalkKit
import Derived.WalkSpells
import Derived.WalkLawsBesides
import Derived.Lib.Hide
import Derived.Deep.RegionWith
namespace Go.Proofs.Ytckagihmmhlcaaa.fnIsOptionalChainCaseTable
open Go.RowKit
set_option linter.unusedSimpArgs false
set_option linter.unusedVariables false

set_option maxRecDepth 100000 in
set_option maxHeartbeats 4000000 in
theorem ident_any (w : World) : Calls Try.prog 28 #[] w fun e w' => e = .returned (.agg #[.iface 76 (.pointer (some ⟨w.heap.size + 1, 0, none⟩)), .int .i32 0]) ∧ (w.alloc (.cells #[.iface 76 (.pointer (some ⟨w.heap.size + 1, 0, none⟩)), .int .i32 0] 39)).alloc (.cells #[.int .u32 0, .int .u32 0, .bool false, .bool false, .bool false] 78) = w' := by
  go_enter Try.func28, Try.ntmps28
  go_wp2
  exact bodyPost_ret (v := .agg #[.iface 76 (.pointer (some ⟨w.heap.size + 1, 0, none⟩)), .int .i32 0]) (by simp [results, Try.results28, go_sem]) rfl ⟨rfl, rfl⟩

/-- What zzBuild hands back for a shape whose data is d. -/
def Built (l : Int) (ok : Value → World → Prop) (w : World) (e : Ending) (w' : World) : Prop := ∃ d, e = .returned (.agg #[d, .int .i32 l]) ∧ ok d w' ∧ Below w.heap.size w w'
def Other (d : Value) (_ : World) : Prop := d = .nilIface ∨ ∃ t v, d = .iface t v ∧ t ≠ 79 ∧ t ≠ 83 ∧ t ≠ 86
def Node (t off : Nat) (c : Int) (d : Value) (w : World) : Prop := ∃ b, d = .iface t (.pointer (some ⟨b, 0, none⟩)) ∧ w.cell? ⟨b, off, none⟩ = some (.int .u8 c)

set_option maxRecDepth 100000 in
set_option maxHeartbeats 4000000 in
theorem build0 (k c : Int) (s : Bool) (f : Nat) (l : Int) (w : World) (h0 : 0 ≤ k) (h1 : k ≤ 255) (hk : k % 20 = 0) :
    Calls Try.prog 15 #[.int .u8 k, .int .u8 c, .bool s, .float .f64 f, .int .i32 l] w (Built l Other w) := by
  go_enter Try.func15, Try.ntmps15
  go_wp2_with fail
  all_goals
    exact bodyPost_ret (v := .agg #[.iface 57 (.pointer (some ⟨w.heap.size + 2, 0, none⟩)), .int .i32 l]) (by simp [results, Try.results15, go_sem]) rfl ⟨_, rfl, Or.inr ⟨_, _, rfl, by decide, by decide, by decide⟩, (by repeat (first | exact Below.refl _ _ | apply Below.drew | (refine Below.alloc ?_ (by simp; try omega) _) | (refine Below.setCell ?_ (by simp; try omega) _)))⟩

set_option maxRecDepth 100000 in
set_option maxHeartbeats 4000000 in
theorem build1 (k c : Int) (s : Bool) (f : Nat) (l : Int) (w : World) (h0 : 0 ≤ k) (h1 : k ≤ 255) (hk : k % 20 = 1) :
    Calls Try.prog 15 #[.int .u8 k, .int .u8 c, .bool s, .float .f64 f, .int .i32 l] w (Built l Other w) := by
  go_enter Try.func15, Try.ntmps15
  go_wp2_with fail
  all_goals
    exact bodyPost_ret (v := .agg #[.iface 60 (.pointer (some ⟨w.heap.size + 2, 0, none⟩)), .int .i32 l]) (by simp [results, Try.results15, go_sem]) rfl ⟨_, rfl, Or.inr ⟨_, _, rfl, by decide, by decide, by decide⟩, (by repeat (first | exact Below.refl _ _ | apply Below.drew | (refine Below.alloc ?_ (by simp; try omega) _) | (refine Below.setCell ?_ (by simp; try omega) _)))⟩

set_option maxRecDepth 100000 in
set_option maxHeartbeats 4000000 in
theorem build2 (k c : Int) (s : Bool) (f : Nat) (l : Int) (w : World) (h0 : 0 ≤ k) (h1 : k ≤ 255) (hk : k % 20 = 2) :
    Calls Try.prog 15 #[.int .u8 k, .int .u8 c, .bool s, .float .f64 f, .int .i32 l] w (Built l Other w) := by
  go_enter Try.func15, Try.ntmps15
  go_wp2_with fail
  all_goals
    exact bodyPost_ret (v := .agg #[.iface 62 (.pointer (some ⟨w.heap.size + 2, 0, none⟩)), .int .i32 l]) (by simp [results, Try.results15, go_sem]) rfl ⟨_, rfl, Or.inr ⟨_, _, rfl, by decide, by decide, by decide⟩, (by repeat (first | exact Below.refl _ _ | apply Below.drew | (refine Below.alloc ?_ (by simp; try omega) _) | (refine Below.setCell ?_ (by simp; try omega) _)))⟩

set_option maxRecDepth 100000 in
set_option maxHeartbeats 4000000 in
theorem build3 (k c : Int) (s : Bool) (f : Nat) (l : Int) (w : World) (h0 : 0 ≤ k) (h1 : k ≤ 255) (hk : k % 20 = 3) :
    Calls Try.prog 15 #[.int .u8 k, .int .u8 c, .bool s, .float .f64 f, .int .i32 l] w (Built l Other w) := by
  go_enter Try.func15, Try.ntmps15
  go_wp2_with fail
  all_goals
    exact bodyPost_ret (v := .agg #[.iface 65 (.pointer (some ⟨w.heap.size + 2, 0, none⟩)), .int .i32 l]) (by simp [results, Try.results15, go_sem]) rfl ⟨_, rfl, Or.inr ⟨_, _, rfl, by decide, by decide, by decide⟩, (by repeat (first | exact Below.refl _ _ | apply Below.drew | (refine Below.alloc ?_ (by simp; try omega) _) | (refine Below.setCell ?_ (by simp; try omega) _)))⟩

set_option maxRecDepth 100000 in
set_option maxHeartbeats 4000000 in
theorem build4 (k c : Int) (s : Bool) (f : Nat) (l : Int) (w : World) (h0 : 0 ≤ k) (h1 : k ≤ 255) (hk : k % 20 = 4) :
    Calls Try.prog 15 #[.int .u8 k, .int .u8 c, .bool s, .float .f64 f, .int .i32 l] w (Built l Other w) := by
  go_enter Try.func15, Try.ntmps15
  go_wp2_with fail
  all_goals
    exact bodyPost_ret (v := .agg #[.iface 68 (.pointer (some ⟨w.heap.size + 3, 0, none⟩)), .int .i32 l]) (by simp [results, Try.results15, go_sem]) rfl ⟨_, rfl, Or.inr ⟨_, _, rfl, by decide, by decide, by decide⟩, (by repeat (first | exact Below.refl _ _ | apply Below.drew | (refine Below.alloc ?_ (by simp; try omega) _) | (refine Below.setCell ?_ (by simp; try omega) _)))⟩

set_option maxRecDepth 100000 in
set_option maxHeartbeats 4000000 in
theorem build5 (k c : Int) (s : Bool) (f : Nat) (l : Int) (w : World) (h0 : 0 ≤ k) (h1 : k ≤ 255) (hk : k % 20 = 5) :
    Calls Try.prog 15 #[.int .u8 k, .int .u8 c, .bool s, .float .f64 f, .int .i32 l] w (Built l Other w) := by
  go_enter Try.func15, Try.ntmps15
  go_wp2_with fail
  all_goals
    exact bodyPost_ret (v := .agg #[.iface 73 (.pointer (some ⟨w.heap.size + 2, 0, none⟩)), .int .i32 l]) (by simp [results, Try.results15, go_sem]) rfl ⟨_, rfl, Or.inr ⟨_, _, rfl, by decide, by decide, by decide⟩, (by repeat (first | exact Below.refl _ _ | apply Below.drew | (refine Below.alloc ?_ (by simp; try omega) _) | (refine Below.setCell ?_ (by simp; try omega) _)))⟩

set_option maxRecDepth 100000 in
set_option maxHeartbeats 4000000 in
theorem build6 (k c : Int) (s : Bool) (f : Nat) (l : Int) (w : World) (h0 : 0 ≤ k) (h1 : k ≤ 255) (hk : k % 20 = 6) :
    Calls Try.prog 15 #[.int .u8 k, .int .u8 c, .bool s, .float .f64 f, .int .i32 l] w (Built l Other w) := by
  go_enter Try.func15, Try.ntmps15
  go_wp2_with fail
  all_goals
    exact bodyPost_ret (v := .agg #[.iface 76 (.pointer (some ⟨w.heap.size + 2, 0, none⟩)), .int .i32 l]) (by simp [results, Try.results15, go_sem]) rfl ⟨_, rfl, Or.inr ⟨_, _, rfl, by decide, by decide, by decide⟩, (by repeat (first | exact Below.refl _ _ | apply Below.drew | (refine Below.alloc ?_ (by simp; try omega) _) | (refine Below.setCell ?_ (by simp; try omega) _)))⟩

set_option maxRecDepth 100000 in
set_option maxHeartbeats 4000000 in
theorem build7 (k c : Int) (s : Bool) (f : Nat) (l : Int) (w : World) (h0 : 0 ≤ k) (h1 : k ≤ 255) (hk : k % 20 = 7) :
    Calls Try.prog 15 #[.int .u8 k, .int .u8 c, .bool s, .float .f64 f, .int .i32 l] w (Built l (Node 79 4 c) w) := by
  go_enter Try.func15, Try.ntmps15
  go_wp2_with fail
  go_region_with (go_at_call 28; refine (ident_any _).mono ?_; rintro e w' ⟨rfl, rfl⟩)
  all_goals
    go_wp2
    exact bodyPost_ret (v := .agg #[.iface 79 (.pointer (some ⟨w.heap.size + 4, 0, none⟩)), .int .i32 l]) (by simp [results, Try.results15, go_sem]) rfl ⟨_, rfl, ⟨_, rfl, by simp [go_sem]⟩, (by repeat (first | exact Below.refl _ _ | apply Below.drew | (refine Below.alloc ?_ (by simp; try omega) _) | (refine Below.setCell ?_ (by simp; try omega) _)))⟩

set_option maxRecDepth 100000 in
set_option maxHeartbeats 4000000 in
theorem build8 (k c : Int) (s : Bool) (f : Nat) (l : Int) (w : World) (h0 : 0 ≤ k) (h1 : k ≤ 255) (hk : k % 20 = 8) :
    Calls Try.prog 15 #[.int .u8 k, .int .u8 c, .bool s, .float .f64 f, .int .i32 l] w (Built l (Node 83 5 c) w) := by
  go_enter Try.func15, Try.ntmps15
  go_wp2_with fail
  go_region_with (go_at_call 28; refine (ident_any _).mono ?_; rintro e w' ⟨rfl, rfl⟩)
  all_goals
    go_wp2
    exact bodyPost_ret (v := .agg #[.iface 83 (.pointer (some ⟨w.heap.size + 5, 0, none⟩)), .int .i32 l]) (by simp [results, Try.results15, go_sem]) rfl ⟨_, rfl, ⟨_, rfl, by simp [go_sem]⟩, (by repeat (first | exact Below.refl _ _ | apply Below.drew | (refine Below.alloc ?_ (by simp; try omega) _) | (refine Below.setCell ?_ (by simp; try omega) _)))⟩

set_option maxRecDepth 100000 in
set_option maxHeartbeats 4000000 in
theorem build9 (k c : Int) (s : Bool) (f : Nat) (l : Int) (w : World) (h0 : 0 ≤ k) (h1 : k ≤ 255) (hk : k % 20 = 9) :
    Calls Try.prog 15 #[.int .u8 k, .int .u8 c, .bool s, .float .f64 f, .int .i32 l] w (Built l (Node 86 4 c) w) := by
  go_enter Try.func15, Try.ntmps15
  go_wp2_with fail
  go_region_with (go_at_call 28; refine (ident_any _).mono ?_; rintro e w' ⟨rfl, rfl⟩)
  all_goals
    go_wp2
    exact bodyPost_ret (v := .agg #[.iface 86 (.pointer (some ⟨w.heap.size + 4, 0, none⟩)), .int .i32 l]) (by simp [results, Try.results15, go_sem]) rfl ⟨_, rfl, ⟨_, rfl, by simp [go_sem]⟩, (by repeat (first | exact Below.refl _ _ | apply Below.drew | (refine Below.alloc ?_ (by simp; try omega) _) | (refine Below.setCell ?_ (by simp; try omega) _)))⟩

set_option maxRecDepth 100000 in
set_option maxHeartbeats 4000000 in
theorem build10 (k c : Int) (s : Bool) (f : Nat) (l : Int) (w : World) (h0 : 0 ≤ k) (h1 : k ≤ 255) (hk : k % 20 = 10) :
    Calls Try.prog 15 #[.int .u8 k, .int .u8 c, .bool s, .float .f64 f, .int .i32 l] w (Built l Other w) := by
  go_enter Try.func15, Try.ntmps15
  go_wp2_with fail
  go_region_with (go_at_call 28; refine (ident_any _).mono ?_; rintro e w' ⟨rfl, rfl⟩)
  all_goals
    go_wp2
    exact bodyPost_ret (v := .agg #[.iface 91 (.pointer (some ⟨w.heap.size + 4, 0, none⟩)), .int .i32 l]) (by simp [results, Try.results15, go_sem]) rfl ⟨_, rfl, Or.inr ⟨_, _, rfl, by decide, by decide, by decide⟩, (by repeat (first | exact Below.refl _ _ | apply Below.drew | (refine Below.alloc ?_ (by simp; try omega) _) | (refine Below.setCell ?_ (by simp; try omega) _)))⟩

set_option maxRecDepth 100000 in
set_option maxHeartbeats 4000000 in
theorem build11 (k c : Int) (s : Bool) (f : Nat) (l : Int) (w : World) (h0 : 0 ≤ k) (h1 : k ≤ 255) (hk : k % 20 = 11) :
    Calls Try.prog 15 #[.int .u8 k, .int .u8 c, .bool s, .float .f64 f, .int .i32 l] w (Built l Other w) := by
  go_enter Try.func15, Try.ntmps15
  go_wp2_with fail
  go_region_with (go_at_call 28; refine (ident_any _).mono ?_; rintro e w' ⟨rfl, rfl⟩)
  all_goals
    go_wp2
    exact bodyPost_ret (v := .agg #[.iface 91 (.pointer (some ⟨w.heap.size + 4, 0, none⟩)), .int .i32 l]) (by simp [results, Try.results15, go_sem]) rfl ⟨_, rfl, Or.inr ⟨_, _, rfl, by decide, by decide, by decide⟩, (by repeat (first | exact Below.refl _ _ | apply Below.drew | (refine Below.alloc ?_ (by simp; try omega) _) | (refine Below.setCell ?_ (by simp; try omega) _)))⟩

set_option maxRecDepth 100000 in
set_option maxHeartbeats 4000000 in
theorem build12 (k c : Int) (s : Bool) (f : Nat) (l : Int) (w : World) (h0 : 0 ≤ k) (h1 : k ≤ 255) (hk : k % 20 = 12) :
    Calls Try.prog 15 #[.int .u8 k, .int .u8 c, .bool s, .float .f64 f, .int .i32 l] w (Built l Other w) := by
  go_enter Try.func15, Try.ntmps15
  go_wp2_with fail
  go_region_with (go_at_call 28; refine (ident_any _).mono ?_; rintro e w' ⟨rfl, rfl⟩)
  all_goals
    go_wp2
    exact bodyPost_ret (v := .agg #[.iface 30 (.pointer (some ⟨w.heap.size + 6, 0, none⟩)), .int .i32 l]) (by simp [results, Try.results15, go_sem]) rfl ⟨_, rfl, Or.inr ⟨_, _, rfl, by decide, by decide, by decide⟩, (by repeat (first | exact Below.refl _ _ | apply Below.drew | (refine Below.alloc ?_ (by simp; try omega) _) | (refine Below.setCell ?_ (by simp; try omega) _)))⟩

set_option maxRecDepth 100000 in
set_option maxHeartbeats 4000000 in
theorem build13 (k c : Int) (s : Bool) (f : Nat) (l : Int) (w : World) (h0 : 0 ≤ k) (h1 : k ≤ 255) (hk : k % 20 = 13) :
    Calls Try.prog 15 #[.int .u8 k, .int .u8 c, .bool s, .float .f64 f, .int .i32 l] w (Built l Other w) := by
  go_enter Try.func15, Try.ntmps15
  go_wp2_with fail
  all_goals
    exact bodyPost_ret (v := .agg #[.iface 94 (.pointer (some ⟨w.heap.size + 3, 0, none⟩)), .int .i32 l]) (by simp [results, Try.results15, go_sem]) rfl ⟨_, rfl, Or.inr ⟨_, _, rfl, by decide, by decide, by decide⟩, (by repeat (first | exact Below.refl _ _ | apply Below.drew | (refine Below.alloc ?_ (by simp; try omega) _) | (refine Below.setCell ?_ (by simp; try omega) _)))⟩

set_option maxRecDepth 100000 in
set_option maxHeartbeats 4000000 in
theorem build14 (k c : Int) (s : Bool) (f : Nat) (l : Int) (w : World) (h0 : 0 ≤ k) (h1 : k ≤ 255) (hk : k % 20 = 14) :
    Calls Try.prog 15 #[.int .u8 k, .int .u8 c, .bool s, .float .f64 f, .int .i32 l] w (Built l Other w) := by
  go_enter Try.func15, Try.ntmps15
  go_wp2_with fail
  all_goals
    exact bodyPost_ret (v := .agg #[.iface 98 (.pointer (some ⟨w.heap.size + 3, 0, none⟩)), .int .i32 l]) (by simp [results, Try.results15, go_sem]) rfl ⟨_, rfl, Or.inr ⟨_, _, rfl, by decide, by decide, by decide⟩, (by repeat (first | exact Below.refl _ _ | apply Below.drew | (refine Below.alloc ?_ (by simp; try omega) _) | (refine Below.setCell ?_ (by simp; try omega) _)))⟩

set_option maxRecDepth 100000 in
set_option maxHeartbeats 4000000 in
theorem build15 (k c : Int) (s : Bool) (f : Nat) (l : Int) (w : World) (h0 : 0 ≤ k) (h1 : k ≤ 255) (hk : k % 20 = 15) :
    Calls Try.prog 15 #[.int .u8 k, .int .u8 c, .bool s, .float .f64 f, .int .i32 l] w (Built l Other w) := by
  go_enter Try.func15, Try.ntmps15
  go_wp2_with fail
  all_goals
    exact bodyPost_ret (v := .agg #[.nilIface, .int .i32 l]) (by simp [results, Try.results15, go_sem]) rfl ⟨_, rfl, Or.inl rfl, (by repeat (first | exact Below.refl _ _ | apply Below.drew | (refine Below.alloc ?_ (by simp; try omega) _) | (refine Below.setCell ?_ (by simp; try omega) _)))⟩

set_option maxRecDepth 100000 in
set_option maxHeartbeats 4000000 in
theorem build16 (k c : Int) (s : Bool) (f : Nat) (l : Int) (w : World) (h0 : 0 ≤ k) (h1 : k ≤ 255) (hk : k % 20 = 16) :
    Calls Try.prog 15 #[.int .u8 k, .int .u8 c, .bool s, .float .f64 f, .int .i32 l] w (Built l Other w) := by
  go_enter Try.func15, Try.ntmps15
  go_wp2_with fail
  all_goals
    exact bodyPost_ret (v := .agg #[.iface 101 (.pointer (some ⟨w.heap.size + 2, 0, none⟩)), .int .i32 l]) (by simp [results, Try.results15, go_sem]) rfl ⟨_, rfl, Or.inr ⟨_, _, rfl, by decide, by decide, by decide⟩, (by repeat (first | exact Below.refl _ _ | apply Below.drew | (refine Below.alloc ?_ (by simp; try omega) _) | (refine Below.setCell ?_ (by simp; try omega) _)))⟩

set_option maxRecDepth 100000 in
set_option maxHeartbeats 4000000 in
theorem build17 (k c : Int) (s : Bool) (f : Nat) (l : Int) (w : World) (h0 : 0 ≤ k) (h1 : k ≤ 255) (hk : k % 20 = 17) :
    Calls Try.prog 15 #[.int .u8 k, .int .u8 c, .bool s, .float .f64 f, .int .i32 l] w (Built l Other w) := by
  go_enter Try.func15, Try.ntmps15
  go_wp2_with fail
  all_goals
    exact bodyPost_ret (v := .agg #[.iface 110 (.pointer (some ⟨w.heap.size + 2, 0, none⟩)), .int .i32 l]) (by simp [results, Try.results15, go_sem]) rfl ⟨_, rfl, Or.inr ⟨_, _, rfl, by decide, by decide, by decide⟩, (by repeat (first | exact Below.refl _ _ | apply Below.drew | (refine Below.alloc ?_ (by simp; try omega) _) | (refine Below.setCell ?_ (by simp; try omega) _)))⟩

set_option maxRecDepth 100000 in
set_option maxHeartbeats 4000000 in
theorem build18 (k c : Int) (s : Bool) (f : Nat) (l : Int) (w : World) (h0 : 0 ≤ k) (h1 : k ≤ 255) (hk : k % 20 = 18) :
    Calls Try.prog 15 #[.int .u8 k, .int .u8 c, .bool s, .float .f64 f, .int .i32 l] w (Built l Other w) := by
  go_enter Try.func15, Try.ntmps15
  go_wp2_with fail
  go_region_with (go_at_call 28; refine (ident_any _).mono ?_; rintro e w' ⟨rfl, rfl⟩)
  all_goals
    go_wp2
    exact bodyPost_ret (v := .agg #[.iface 94 (.pointer (some ⟨w.heap.size + 5, 0, none⟩)), .int .i32 l]) (by simp [results, Try.results15, go_sem]) rfl ⟨_, rfl, Or.inr ⟨_, _, rfl, by decide, by decide, by decide⟩, (by repeat (first | exact Below.refl _ _ | apply Below.drew | (refine Below.alloc ?_ (by simp; try omega) _) | (refine Below.setCell ?_ (by simp; try omega) _)))⟩

set_option maxRecDepth 100000 in
set_option maxHeartbeats 4000000 in
theorem build19 (k c : Int) (s : Bool) (f : Nat) (l : Int) (w : World) (h0 : 0 ≤ k) (h1 : k ≤ 255) (hk : k % 20 = 19) :
    Calls Try.prog 15 #[.int .u8 k, .int .u8 c, .bool s, .float .f64 f, .int .i32 l] w (Built l Other w) := by
  go_enter Try.func15, Try.ntmps15
  go_wp2_with fail
  go_region_with (go_at_call 28; refine (ident_any _).mono ?_; rintro e w' ⟨rfl, rfl⟩)
  all_goals
    go_wp2
    exact bodyPost_ret (v := .agg #[.iface 98 (.pointer (some ⟨w.heap.size + 6, 0, none⟩)), .int .i32 l]) (by simp [results, Try.results15, go_sem]) rfl ⟨_, rfl, Or.inr ⟨_, _, rfl, by decide, by decide, by decide⟩, (by repeat (first | exact Below.refl _ _ | apply Below.drew | (refine Below.alloc ?_ (by simp; try omega) _) | (refine Below.setCell ?_ (by simp; try omega) _)))⟩

def OkOf (n : Nat) (c : Int) : Value → World → Prop := if n = 7 then Node 79 4 c else if n = 8 then Node 83 5 c else if n = 9 then Node 86 4 c else Other

theorem build_all (n : Nat) (k c : Int) (s : Bool) (f : Nat) (l : Int) (w : World) (h0 : 0 ≤ k) (h1 : k ≤ 255) (hn : n < 20) (hk : k % 20 = n) :
    Calls Try.prog 15 #[.int .u8 k, .int .u8 c, .bool s, .float .f64 f, .int .i32 l] w (Built l (OkOf n c) w) := by
  rcases n with _ | _ | _ | _ | _ | _ | _ | _ | _ | _ | _ | _ | _ | _ | _ | _ | _ | _ | _ | _ | n
  case succ => omega
  · exact build0 k c s f l w h0 h1 (by simpa using hk)
  · exact build1 k c s f l w h0 h1 (by simpa using hk)
  · exact build2 k c s f l w h0 h1 (by simpa using hk)
  · exact build3 k c s f l w h0 h1 (by simpa using hk)
  · exact build4 k c s f l w h0 h1 (by simpa using hk)
  · exact build5 k c s f l w h0 h1 (by simpa using hk)
  · exact build6 k c s f l w h0 h1 (by simpa using hk)
  · exact build7 k c s f l w h0 h1 (by simpa using hk)
  · exact build8 k c s f l w h0 h1 (by simpa using hk)
  · exact build9 k c s f l w h0 h1 (by simpa using hk)
  · exact build10 k c s f l w h0 h1 (by simpa using hk)
  · exact build11 k c s f l w h0 h1 (by simpa using hk)
  · exact build12 k c s f l w h0 h1 (by simpa using hk)
  · exact build13 k c s f l w h0 h1 (by simpa using hk)
  · exact build14 k c s f l w h0 h1 (by simpa using hk)
  · exact build15 k c s f l w h0 h1 (by simpa using hk)
  · exact build16 k c s f l w h0 h1 (by simpa using hk)
  · exact build17 k c s f l w h0 h1 (by simpa using hk)
  · exact build18 k c s f l w h0 h1 (by simpa using hk)
  · exact build19 k c s f l w h0 h1 (by simpa using hk)
end Go.Proofs.Ytckagihmmhlcaaa.fnIsOptionalChainCaseTable
