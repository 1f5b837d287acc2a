/- Proved here: contracts of mkLeaf, MaybeSimplifyNot and Not at the kinds of leaf that the law builds. Conditions: the kind, the node's first cell. -/
import Derived.Test.YtonhekaakddneaaRRRNL
import Derived.WalkKit
import Derived.WalkSpells
import Derived.WalkLawsBesides
import Derived.Lib.Hide
import Derived.Lib.SliceRun
import Derived.Deep.RegionWith
namespace Go.Proofs.YtonhekaakddneaaRRR.fnNotLeafTable
open Go.RowKit
set_option linter.unusedSimpArgs false
set_option linter.unusedVariables false

/-- What mkLeaf hands out: a new node of type T whose first cell is c (if told), its location, and the node itself where asked. -/
def LP (T : Nat) (loc : Int) (c : Option Value) (i1 i2 i3 : Nat → Value) (w : World) (e : Ending) (w' : World) : Prop :=
  ∃ b, e = .returned (.tuple #[.agg #[.iface T (.pointer (some ⟨b, 0, none⟩)), .int .i32 loc], i1 b, i2 b, i3 b]) ∧ (∀ v, c = some v → w'.cell? ⟨b, 0, none⟩ = some v) ∧ Below w.heap.size w w'
def IsB2 (v : Bool) (n : Int) (w : World) (e : Ending) (w' : World) : Prop :=
  ∃ b, e = .returned (.tuple #[.agg #[.iface 53 (.pointer (some ⟨b, 0, none⟩)), .int .i32 n], .bool true]) ∧ w'.cell? ⟨b, 0, none⟩ = some (.bool v) ∧ Below w.heap.size w w'
def IsB (v : Bool) (n : Int) (w : World) (e : Ending) (w' : World) : Prop :=
  ∃ b, e = .returned (.agg #[.iface 53 (.pointer (some ⟨b, 0, none⟩)), .int .i32 n]) ∧ w'.cell? ⟨b, 0, none⟩ = some (.bool v) ∧ Below w.heap.size w w'

set_option maxRecDepth 100000 in
set_option maxHeartbeats 1000000 in
theorem mk0 (k : Int) (b : Bool) (x : Nat) (a : Option Addr) (len cap : Nat) (big : ByteArray) (loc : Int) (w : World) (h0 : 0 ≤ k) (h1 : k ≤ 255) (hk : k % 11 = 0) :
    Calls Try.prog 14 #[.int .u8 k, .bool b, .float .f64 x, .slice a len cap, .string big, .int .i32 loc] w (LP 82 loc (none) (fun _ => .pointer none) (fun _ => .pointer none) (fun _ => .pointer none) w) := by
  go_enter Try.func14, Try.ntmps14
  go_wp2_with fail
  exact bodyPost_ret (v := .tuple #[.agg #[.iface 82 (.pointer (some ⟨w.heap.size + 2, 0, none⟩)), .int .i32 loc], .pointer none, .pointer none, .pointer none]) (by simp [results, Try.results14, go_sem]) rfl ⟨w.heap.size + 2, rfl, by simp [go_sem], (by repeat (first | with_reducible exact Below.refl _ _ | (with_reducible refine Below.drew ?_) | (with_reducible refine Below.alloc ?_ (by simp; try omega) _) | (with_reducible refine Below.setCell ?_ (by simp; try omega) _)))⟩

set_option maxRecDepth 100000 in
set_option maxHeartbeats 1000000 in
theorem mk1 (k : Int) (b : Bool) (x : Nat) (a : Option Addr) (len cap : Nat) (big : ByteArray) (loc : Int) (w : World) (h0 : 0 ≤ k) (h1 : k ≤ 255) (hk : k % 11 = 1) :
    Calls Try.prog 14 #[.int .u8 k, .bool b, .float .f64 x, .slice a len cap, .string big, .int .i32 loc] w (LP 84 loc (none) (fun _ => .pointer none) (fun _ => .pointer none) (fun _ => .pointer none) w) := by
  go_enter Try.func14, Try.ntmps14
  go_wp2_with fail
  exact bodyPost_ret (v := .tuple #[.agg #[.iface 84 (.pointer (some ⟨w.heap.size + 2, 0, none⟩)), .int .i32 loc], .pointer none, .pointer none, .pointer none]) (by simp [results, Try.results14, go_sem]) rfl ⟨w.heap.size + 2, rfl, by simp [go_sem], (by repeat (first | with_reducible exact Below.refl _ _ | (with_reducible refine Below.drew ?_) | (with_reducible refine Below.alloc ?_ (by simp; try omega) _) | (with_reducible refine Below.setCell ?_ (by simp; try omega) _)))⟩

set_option maxRecDepth 100000 in
set_option maxHeartbeats 1000000 in
theorem mk2 (k : Int) (b : Bool) (x : Nat) (a : Option Addr) (len cap : Nat) (big : ByteArray) (loc : Int) (w : World) (h0 : 0 ≤ k) (h1 : k ≤ 255) (hk : k % 11 = 2) :
    Calls Try.prog 14 #[.int .u8 k, .bool b, .float .f64 x, .slice a len cap, .string big, .int .i32 loc] w (LP 53 loc (some (.bool b)) (fun _ => .pointer none) (fun _ => .pointer none) (fun _ => .pointer none) w) := by
  go_enter Try.func14, Try.ntmps14
  go_wp2_with fail
  exact bodyPost_ret (v := .tuple #[.agg #[.iface 53 (.pointer (some ⟨w.heap.size + 2, 0, none⟩)), .int .i32 loc], .pointer none, .pointer none, .pointer none]) (by simp [results, Try.results14, go_sem]) rfl ⟨w.heap.size + 2, rfl, by simp [go_sem], (by repeat (first | with_reducible exact Below.refl _ _ | (with_reducible refine Below.drew ?_) | (with_reducible refine Below.alloc ?_ (by simp; try omega) _) | (with_reducible refine Below.setCell ?_ (by simp; try omega) _)))⟩

set_option maxRecDepth 100000 in
set_option maxHeartbeats 1000000 in
theorem mk3 (k : Int) (b : Bool) (x : Nat) (a : Option Addr) (len cap : Nat) (big : ByteArray) (loc : Int) (w : World) (h0 : 0 ≤ k) (h1 : k ≤ 255) (hk : k % 11 = 3) :
    Calls Try.prog 14 #[.int .u8 k, .bool b, .float .f64 x, .slice a len cap, .string big, .int .i32 loc] w (LP 94 loc (some (.float .f64 x)) (fun _ => .pointer none) (fun _ => .pointer none) (fun _ => .pointer none) w) := by
  go_enter Try.func14, Try.ntmps14
  go_wp2_with fail
  exact bodyPost_ret (v := .tuple #[.agg #[.iface 94 (.pointer (some ⟨w.heap.size + 2, 0, none⟩)), .int .i32 loc], .pointer none, .pointer none, .pointer none]) (by simp [results, Try.results14, go_sem]) rfl ⟨w.heap.size + 2, rfl, by simp [go_sem], (by repeat (first | with_reducible exact Below.refl _ _ | (with_reducible refine Below.drew ?_) | (with_reducible refine Below.alloc ?_ (by simp; try omega) _) | (with_reducible refine Below.setCell ?_ (by simp; try omega) _)))⟩

set_option maxRecDepth 100000 in
set_option maxHeartbeats 1000000 in
theorem mk4 (k : Int) (b : Bool) (x : Nat) (a : Option Addr) (len cap : Nat) (big : ByteArray) (loc : Int) (w : World) (h0 : 0 ≤ k) (h1 : k ≤ 255) (hk : k % 11 = 4) :
    Calls Try.prog 14 #[.int .u8 k, .bool b, .float .f64 x, .slice a len cap, .string big, .int .i32 loc] w (LP 97 loc (some (.slice a len cap)) (fun _ => .pointer none) (fun _ => .pointer none) (fun _ => .pointer none) w) := by
  go_enter Try.func14, Try.ntmps14
  go_wp2_with fail
  exact bodyPost_ret (v := .tuple #[.agg #[.iface 97 (.pointer (some ⟨w.heap.size + 2, 0, none⟩)), .int .i32 loc], .pointer none, .pointer none, .pointer none]) (by simp [results, Try.results14, go_sem]) rfl ⟨w.heap.size + 2, rfl, by simp [go_sem], (by repeat (first | with_reducible exact Below.refl _ _ | (with_reducible refine Below.drew ?_) | (with_reducible refine Below.alloc ?_ (by simp; try omega) _) | (with_reducible refine Below.setCell ?_ (by simp; try omega) _)))⟩

set_option maxRecDepth 100000 in
set_option maxHeartbeats 1000000 in
theorem mk5 (k : Int) (b : Bool) (x : Nat) (a : Option Addr) (len cap : Nat) (big : ByteArray) (loc : Int) (w : World) (h0 : 0 ≤ k) (h1 : k ≤ 255) (hk : k % 11 = 5) :
    Calls Try.prog 14 #[.int .u8 k, .bool b, .float .f64 x, .slice a len cap, .string big, .int .i32 loc] w (LP 44 loc (some (.string big)) (fun _ => .pointer none) (fun b => .pointer (some ⟨b, 0, none⟩)) (fun _ => .pointer none) w) := by
  go_enter Try.func14, Try.ntmps14
  go_wp2_with fail
  exact bodyPost_ret (v := .tuple #[.agg #[.iface 44 (.pointer (some ⟨w.heap.size + 2, 0, none⟩)), .int .i32 loc], .pointer none, (.pointer (some ⟨w.heap.size + 2, 0, none⟩)), .pointer none]) (by simp [results, Try.results14, go_sem]) rfl ⟨w.heap.size + 2, rfl, by simp [go_sem], (by repeat (first | with_reducible exact Below.refl _ _ | (with_reducible refine Below.drew ?_) | (with_reducible refine Below.alloc ?_ (by simp; try omega) _) | (with_reducible refine Below.setCell ?_ (by simp; try omega) _)))⟩

set_option maxRecDepth 100000 in
set_option maxHeartbeats 1000000 in
theorem mk6 (k : Int) (b : Bool) (x : Nat) (a : Option Addr) (len cap : Nat) (big : ByteArray) (loc : Int) (w : World) (h0 : 0 ≤ k) (h1 : k ≤ 255) (hk : k % 11 = 6) :
    Calls Try.prog 14 #[.int .u8 k, .bool b, .float .f64 x, .slice a len cap, .string big, .int .i32 loc] w (LP 102 loc (none) (fun _ => .pointer none) (fun _ => .pointer none) (fun _ => .pointer none) w) := by
  go_enter Try.func14, Try.ntmps14
  go_wp2_with fail
  exact bodyPost_ret (v := .tuple #[.agg #[.iface 102 (.pointer (some ⟨w.heap.size + 2, 0, none⟩)), .int .i32 loc], .pointer none, .pointer none, .pointer none]) (by simp [results, Try.results14, go_sem]) rfl ⟨w.heap.size + 2, rfl, by simp [go_sem], (by repeat (first | with_reducible exact Below.refl _ _ | (with_reducible refine Below.drew ?_) | (with_reducible refine Below.alloc ?_ (by simp; try omega) _) | (with_reducible refine Below.setCell ?_ (by simp; try omega) _)))⟩

set_option maxRecDepth 100000 in
set_option maxHeartbeats 1000000 in
theorem mk7 (k : Int) (b : Bool) (x : Nat) (a : Option Addr) (len cap : Nat) (big : ByteArray) (loc : Int) (w : World) (h0 : 0 ≤ k) (h1 : k ≤ 255) (hk : k % 11 = 7) :
    Calls Try.prog 14 #[.int .u8 k, .bool b, .float .f64 x, .slice a len cap, .string big, .int .i32 loc] w (LP 114 loc (none) (fun _ => .pointer none) (fun _ => .pointer none) (fun _ => .pointer none) w) := by
  go_enter Try.func14, Try.ntmps14
  go_wp2_with fail
  exact bodyPost_ret (v := .tuple #[.agg #[.iface 114 (.pointer (some ⟨w.heap.size + 2, 0, none⟩)), .int .i32 loc], .pointer none, .pointer none, .pointer none]) (by simp [results, Try.results14, go_sem]) rfl ⟨w.heap.size + 2, rfl, by simp [go_sem], (by repeat (first | with_reducible exact Below.refl _ _ | (with_reducible refine Below.drew ?_) | (with_reducible refine Below.alloc ?_ (by simp; try omega) _) | (with_reducible refine Below.setCell ?_ (by simp; try omega) _)))⟩

set_option maxRecDepth 100000 in
set_option maxHeartbeats 1000000 in
theorem mk8 (k : Int) (b : Bool) (x : Nat) (a : Option Addr) (len cap : Nat) (big : ByteArray) (loc : Int) (w : World) (h0 : 0 ≤ k) (h1 : k ≤ 255) (hk : k % 11 = 8) :
    Calls Try.prog 14 #[.int .u8 k, .bool b, .float .f64 x, .slice a len cap, .string big, .int .i32 loc] w (LP 117 loc (none) (fun _ => .pointer none) (fun _ => .pointer none) (fun _ => .pointer none) w) := by
  go_enter Try.func14, Try.ntmps14
  go_wp2_with fail
  exact bodyPost_ret (v := .tuple #[.agg #[.iface 117 (.pointer (some ⟨w.heap.size + 2, 0, none⟩)), .int .i32 loc], .pointer none, .pointer none, .pointer none]) (by simp [results, Try.results14, go_sem]) rfl ⟨w.heap.size + 2, rfl, by simp [go_sem], (by repeat (first | with_reducible exact Below.refl _ _ | (with_reducible refine Below.drew ?_) | (with_reducible refine Below.alloc ?_ (by simp; try omega) _) | (with_reducible refine Below.setCell ?_ (by simp; try omega) _)))⟩

set_option maxRecDepth 100000 in
set_option maxHeartbeats 1000000 in
theorem mk9 (k : Int) (b : Bool) (x : Nat) (a : Option Addr) (len cap : Nat) (big : ByteArray) (loc : Int) (w : World) (h0 : 0 ≤ k) (h1 : k ≤ 255) (hk : k % 11 = 9) :
    Calls Try.prog 14 #[.int .u8 k, .bool b, .float .f64 x, .slice a len cap, .string big, .int .i32 loc] w (LP 43 loc (none) (fun b => .pointer (some ⟨b, 0, none⟩)) (fun _ => .pointer none) (fun _ => .pointer none) w) := by
  go_enter Try.func14, Try.ntmps14
  go_wp2_with fail
  exact bodyPost_ret (v := .tuple #[.agg #[.iface 43 (.pointer (some ⟨w.heap.size + 2, 0, none⟩)), .int .i32 loc], (.pointer (some ⟨w.heap.size + 2, 0, none⟩)), .pointer none, .pointer none]) (by simp [results, Try.results14, go_sem]) rfl ⟨w.heap.size + 2, rfl, by simp [go_sem], (by repeat (first | with_reducible exact Below.refl _ _ | (with_reducible refine Below.drew ?_) | (with_reducible refine Below.alloc ?_ (by simp; try omega) _) | (with_reducible refine Below.setCell ?_ (by simp; try omega) _)))⟩

set_option maxRecDepth 100000 in
set_option maxHeartbeats 1000000 in
theorem mk10 (k : Int) (b : Bool) (x : Nat) (a : Option Addr) (len cap : Nat) (big : ByteArray) (loc : Int) (w : World) (h0 : 0 ≤ k) (h1 : k ≤ 255) (hk : k % 11 = 10) :
    Calls Try.prog 14 #[.int .u8 k, .bool b, .float .f64 x, .slice a len cap, .string big, .int .i32 loc] w (LP 45 loc (none) (fun _ => .pointer none) (fun _ => .pointer none) (fun b => .pointer (some ⟨b, 0, none⟩)) w) := by
  go_enter Try.func14, Try.ntmps14
  go_wp2_with fail
  exact bodyPost_ret (v := .tuple #[.agg #[.iface 45 (.pointer (some ⟨w.heap.size + 2, 0, none⟩)), .int .i32 loc], .pointer none, .pointer none, (.pointer (some ⟨w.heap.size + 2, 0, none⟩))]) (by simp [results, Try.results14, go_sem]) rfl ⟨w.heap.size + 2, rfl, by simp [go_sem], (by repeat (first | with_reducible exact Below.refl _ _ | (with_reducible refine Below.drew ?_) | (with_reducible refine Below.alloc ?_ (by simp; try omega) _) | (with_reducible refine Below.setCell ?_ (by simp; try omega) _)))⟩
end Go.Proofs.YtonhekaakddneaaRRR.fnNotLeafTable
