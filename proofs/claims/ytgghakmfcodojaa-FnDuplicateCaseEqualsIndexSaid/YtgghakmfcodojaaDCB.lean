/- Proved here: contracts of duplicateCaseEquals on leaves, inlined enums, dot and index nodes, from the nodes' cells. Conditions as stated. -/
import Derived.Test.YtgghakmfcodojaaDCA
import Derived.WalkKit
import Derived.WalkSpells
import Derived.WalkLawsBesides
import Derived.Lib.Hide
import Derived.Lib.SliceRun
import Derived.Deep.RegionWith
import Derived.Deep.QuietTactic
import Derived.BigQuiet
namespace Go.Proofs.Ytgghakmfcodojaa
open Go.RowKit
set_option linter.unusedSimpArgs false
set_option linter.unusedVariables false

/-- A leaf of kind k (0 null, 1 undefined, 2 boolean, 3 number, 4 string, 5 identifier, 6 array) at block p. -/
def LAt (w : World) (p : Nat) (k x : Nat) (b : Bool) (a : Option Addr) (n c : Nat) (r : Int) : Prop :=
  (k = 2 → w.cell? ⟨p, 0, none⟩ = some (.bool b)) ∧ (k = 3 → w.cell? ⟨p, 0, none⟩ = some (.float .f64 x)) ∧ (k = 4 → w.cell? ⟨p, 0, none⟩ = some (.slice a n c)) ∧ (k = 5 → w.cell? ⟨p, 0, none⟩ = some (.int .u32 0) ∧ w.cell? ⟨p, 1, none⟩ = some (.int .u32 r))
def lty (k : Nat) : Nat := if k = 0 then 69 else if k = 1 then 70 else if k = 2 then 72 else if k = 3 then 75 else if k = 4 then 82 else if k = 5 then 88 else 93

theorem LAt.mono {w w' : World} {p k x : Nat} {b : Bool} {a : Option Addr} {n c : Nat} {r : Int} (h : LAt w p k x b a n c r) (hm : ∀ o u, w.cell? ⟨p, o, none⟩ = some u → w'.cell? ⟨p, o, none⟩ = some u) : LAt w' p k x b a n c r :=
  ⟨fun e => hm _ _ (h.1 e), fun e => hm _ _ (h.2.1 e), fun e => hm _ _ (h.2.2.1 e), fun e => ⟨hm _ _ (h.2.2.2 e).1, hm _ _ (h.2.2.2 e).2⟩⟩
theorem LAt.below {w w' : World} {p k x : Nat} {b : Bool} {a : Option Addr} {n c : Nat} {r : Int} (h : LAt w p k x b a n c r) (hb : Below w.heap.size w w') : LAt w' p k x b a n c r := h.mono fun _ _ hc => kept hb hc
noncomputable def leq (k x : Nat) (b : Bool) (n : Nat) (zs : List Int) (r : Int) (k' x' : Nat) (b' : Bool) (n' : Nat) (zs' : List Int) (r' : Int) : Bool :=
  if k = k' then (if k = 2 then b == b' else if k = 3 then FloatKind.f64.format.order x x' == some .eq else if k = 4 then ueq n n' zs zs' else if k = 5 then r == r' else decide (k ≠ 6)) else false
def DP (b1 b2 : Bool) (w : World) (e : Ending) (w' : World) : Prop := e = .returned (.tuple #[.bool b1, .bool b2]) ∧ Below w.heap.size w w'

set_option maxRecDepth 100000 in
set_option maxHeartbeats 400000 in
theorem same0 (p q : Nat) (n m : Int) (w : World) :
    Calls Try.prog 30 #[.agg #[.iface 69 (.pointer (some ⟨p, 0, none⟩)), .int .i32 n], .agg #[.iface 69 (.pointer (some ⟨q, 0, none⟩)), .int .i32 m]] w (DP true false w) := by
  go_enter Try.func30, Try.ntmps30
  go_wp2_with fail
  go_ret2
  exact ⟨rfl, (by repeat (first | with_reducible exact Below.refl _ _ | (with_reducible refine Below.drew ?_) | (with_reducible refine below_drewN ?_ _) | (with_reducible refine Below.alloc ?_ (by simp; try omega) _)))⟩

set_option maxRecDepth 100000 in
set_option maxHeartbeats 400000 in
theorem same1 (p q : Nat) (n m : Int) (w : World) :
    Calls Try.prog 30 #[.agg #[.iface 70 (.pointer (some ⟨p, 0, none⟩)), .int .i32 n], .agg #[.iface 70 (.pointer (some ⟨q, 0, none⟩)), .int .i32 m]] w (DP true false w) := by
  go_enter Try.func30, Try.ntmps30
  go_wp2_with fail
  go_ret2
  exact ⟨rfl, (by repeat (first | with_reducible exact Below.refl _ _ | (with_reducible refine Below.drew ?_) | (with_reducible refine below_drewN ?_ _) | (with_reducible refine Below.alloc ?_ (by simp; try omega) _)))⟩

set_option maxRecDepth 100000 in
set_option maxHeartbeats 400000 in
theorem same2 (p q : Nat) (b b' : Bool) (n m : Int) (w : World) (h1 : w.cell? ⟨p, 0, none⟩ = some (.bool b)) (h2 : w.cell? ⟨q, 0, none⟩ = some (.bool b')) :
    Calls Try.prog 30 #[.agg #[.iface 72 (.pointer (some ⟨p, 0, none⟩)), .int .i32 n], .agg #[.iface 72 (.pointer (some ⟨q, 0, none⟩)), .int .i32 m]] w (DP (b == b') false w) := by
  have lp : p < w.heap.size := World.block_lt_of_cell? _ _ h1
  have lp1 : p < w.heap.size + 1 := by omega
  have lp2 : p < w.heap.size + 1 + 1 := by omega
  have lq : q < w.heap.size := World.block_lt_of_cell? _ _ h2
  have lq1 : q < w.heap.size + 1 := by omega
  have lq2 : q < w.heap.size + 1 + 1 := by omega
  go_enter Try.func30, Try.ntmps30
  go_wp2_with fail
  go_region
  all_goals
    go_wp2_with fail
    go_ret2
    exact ⟨rfl, (by repeat (first | with_reducible exact Below.refl _ _ | (with_reducible refine Below.drew ?_) | (with_reducible refine below_drewN ?_ _) | (with_reducible refine Below.alloc ?_ (by simp; try omega) _)))⟩

set_option maxRecDepth 100000 in
set_option maxHeartbeats 400000 in
theorem same3 (p q : Nat) (x x' : Nat) (n m : Int) (w : World) (h1 : w.cell? ⟨p, 0, none⟩ = some (.float .f64 x)) (h2 : w.cell? ⟨q, 0, none⟩ = some (.float .f64 x')) :
    Calls Try.prog 30 #[.agg #[.iface 75 (.pointer (some ⟨p, 0, none⟩)), .int .i32 n], .agg #[.iface 75 (.pointer (some ⟨q, 0, none⟩)), .int .i32 m]] w (DP (FloatKind.f64.format.order x x' == some .eq) false w) := by
  have lp : p < w.heap.size := World.block_lt_of_cell? _ _ h1
  have lp1 : p < w.heap.size + 1 := by omega
  have lp2 : p < w.heap.size + 1 + 1 := by omega
  have lq : q < w.heap.size := World.block_lt_of_cell? _ _ h2
  have lq1 : q < w.heap.size + 1 := by omega
  have lq2 : q < w.heap.size + 1 + 1 := by omega
  go_enter Try.func30, Try.ntmps30
  go_wp2_with fail
  go_region
  all_goals
    go_wp2_with fail
    go_ret2
    exact ⟨rfl, (by repeat (first | with_reducible exact Below.refl _ _ | (with_reducible refine Below.drew ?_) | (with_reducible refine below_drewN ?_ _) | (with_reducible refine Below.alloc ?_ (by simp; try omega) _)))⟩

set_option maxRecDepth 100000 in
set_option maxHeartbeats 400000 in
theorem same5 (p q : Nat) (r r' : Int) (n m : Int) (w : World) (h1 : w.cell? ⟨p, 0, none⟩ = some (.int .u32 0)) (h2 : w.cell? ⟨p, 1, none⟩ = some (.int .u32 r)) (h3 : w.cell? ⟨q, 0, none⟩ = some (.int .u32 0)) (h4 : w.cell? ⟨q, 1, none⟩ = some (.int .u32 r')) :
    Calls Try.prog 30 #[.agg #[.iface 88 (.pointer (some ⟨p, 0, none⟩)), .int .i32 n], .agg #[.iface 88 (.pointer (some ⟨q, 0, none⟩)), .int .i32 m]] w (DP (r == r') false w) := by
  have lp : p < w.heap.size := World.block_lt_of_cell? _ _ h1
  have lp1 : p < w.heap.size + 1 := by omega
  have lp2 : p < w.heap.size + 1 + 1 := by omega
  have lq : q < w.heap.size := World.block_lt_of_cell? _ _ h3
  have lq1 : q < w.heap.size + 1 := by omega
  have lq2 : q < w.heap.size + 1 + 1 := by omega
  cases hr : (r == r')
  · go_enter Try.func30, Try.ntmps30
    go_wp2_with fail
    go_quiet (fail)
    go_wp2_with fail
    go_ret2
    exact ⟨rfl, (by repeat (first | with_reducible exact Below.refl _ _ | (with_reducible refine Below.drew ?_) | (with_reducible refine below_drewN ?_ _) | (with_reducible refine Below.alloc ?_ (by simp; try omega) _)))⟩
  · go_enter Try.func30, Try.ntmps30
    go_wp2_with fail
    go_quiet (fail)
    go_wp2_with fail
    go_ret2
    exact ⟨rfl, (by repeat (first | with_reducible exact Below.refl _ _ | (with_reducible refine Below.drew ?_) | (with_reducible refine below_drewN ?_ _) | (with_reducible refine Below.alloc ?_ (by simp; try omega) _)))⟩

set_option maxRecDepth 100000 in
set_option maxHeartbeats 400000 in
theorem same4 (p q : Nat) (a a' : Option Addr) (k k' c c' : Nat) (zs zs' : List Int) (n m : Int) (w : World) (h1 : w.cell? ⟨p, 0, none⟩ = some (.slice a k c)) (h2 : w.cell? ⟨q, 0, none⟩ = some (.slice a' k' c')) (r1 : RowV w a k (fun i => .int .u16 (uAt zs i))) (r2 : RowV w a' k' (fun i => .int .u16 (uAt zs' i))) (b1 : k ≤ 1048576) (b2 : k' ≤ 1048576) :
    Calls Try.prog 30 #[.agg #[.iface 82 (.pointer (some ⟨p, 0, none⟩)), .int .i32 n], .agg #[.iface 82 (.pointer (some ⟨q, 0, none⟩)), .int .i32 m]] w (DP (ueq k k' zs zs') false w) := by
  have lp : p < w.heap.size := World.block_lt_of_cell? _ _ h1
  have lp1 : p < w.heap.size + 1 := by omega
  have lp2 : p < w.heap.size + 1 + 1 := by omega
  have lq : q < w.heap.size := World.block_lt_of_cell? _ _ h2
  have lq1 : q < w.heap.size + 1 := by omega
  have lq2 : q < w.heap.size + 1 + 1 := by omega
  have HC := Lib.hid (show ∀ W, Below w.heap.size w W → Calls Try.prog 41 #[.slice a k c, .slice a' k' c'] W (BPostQ (ueq k k' zs zs') W) from fun W hW => u41 a a' k k' c c' zs zs' W (r1.below hW) (r2.below hW) b1 b2)
  clear r1 r2
  obtain ⟨g, hg⟩ : ∃ g, g = ueq k k' zs zs' := ⟨_, rfl⟩
  rw [← hg] at HC ⊢
  clear hg
  go_enter Try.func30, Try.ntmps30
  go_wp2_with fail
  go_quiet ((go_at_call 41; exact Calls.quiet_of (HC.out _ (by repeat (first | with_reducible exact Below.refl _ _ | (with_reducible refine Below.drew ?_) | (with_reducible refine below_drewN ?_ _) | (with_reducible refine Below.alloc ?_ (by simp; try omega) _))))))
  go_wp2_with fail
  go_ret2
  exact ⟨rfl, (by repeat (first | with_reducible exact Below.refl _ _ | (with_reducible refine Below.drew ?_) | (with_reducible refine below_drewN ?_ _) | (with_reducible refine Below.alloc ?_ (by simp; try omega) _)))⟩

set_option maxRecDepth 100000 in
set_option maxHeartbeats 400000 in
theorem arr (p q t : Nat) (n m : Int) (w : World) (h : ¬ t = 65) :
    Calls Try.prog 30 #[.agg #[.iface 93 (.pointer (some ⟨p, 0, none⟩)), .int .i32 n], .agg #[.iface t (.pointer (some ⟨q, 0, none⟩)), .int .i32 m]] w (DP false false w) := by
  go_enter Try.func30, Try.ntmps30
  go_wp2_with fail
  go_ret2
  exact ⟨rfl, (by repeat (first | with_reducible exact Below.refl _ _ | (with_reducible refine Below.drew ?_) | (with_reducible refine below_drewN ?_ _) | (with_reducible refine Below.alloc ?_ (by simp; try omega) _)))⟩

set_option maxRecDepth 100000 in
set_option maxHeartbeats 400000 in
theorem oth0 (p q t : Nat) (n m : Int) (w : World) (h : ¬ t = 65) (h2 : ¬ t = 69) :
    Calls Try.prog 30 #[.agg #[.iface 69 (.pointer (some ⟨p, 0, none⟩)), .int .i32 n], .agg #[.iface t (.pointer (some ⟨q, 0, none⟩)), .int .i32 m]] w (DP false false w) := by
  go_enter Try.func30, Try.ntmps30
  go_wp2_with fail
  go_ret2
  exact ⟨rfl, (by repeat (first | with_reducible exact Below.refl _ _ | (with_reducible refine Below.drew ?_) | (with_reducible refine below_drewN ?_ _) | (with_reducible refine Below.alloc ?_ (by simp; try omega) _)))⟩

set_option maxRecDepth 100000 in
set_option maxHeartbeats 400000 in
theorem oth1 (p q t : Nat) (n m : Int) (w : World) (h : ¬ t = 65) (h2 : ¬ t = 70) :
    Calls Try.prog 30 #[.agg #[.iface 70 (.pointer (some ⟨p, 0, none⟩)), .int .i32 n], .agg #[.iface t (.pointer (some ⟨q, 0, none⟩)), .int .i32 m]] w (DP false false w) := by
  go_enter Try.func30, Try.ntmps30
  go_wp2_with fail
  go_ret2
  exact ⟨rfl, (by repeat (first | with_reducible exact Below.refl _ _ | (with_reducible refine Below.drew ?_) | (with_reducible refine below_drewN ?_ _) | (with_reducible refine Below.alloc ?_ (by simp; try omega) _)))⟩

set_option maxRecDepth 100000 in
set_option maxHeartbeats 400000 in
theorem oth2 (p q t : Nat) (n m : Int) (w : World) (h : ¬ t = 65) (h2 : ¬ t = 72) :
    Calls Try.prog 30 #[.agg #[.iface 72 (.pointer (some ⟨p, 0, none⟩)), .int .i32 n], .agg #[.iface t (.pointer (some ⟨q, 0, none⟩)), .int .i32 m]] w (DP false false w) := by
  go_enter Try.func30, Try.ntmps30
  go_wp2_with fail
  go_region
  all_goals
    go_wp2_with fail
    go_ret2
    exact ⟨rfl, (by repeat (first | with_reducible exact Below.refl _ _ | (with_reducible refine Below.drew ?_) | (with_reducible refine below_drewN ?_ _) | (with_reducible refine Below.alloc ?_ (by simp; try omega) _)))⟩

set_option maxRecDepth 100000 in
set_option maxHeartbeats 400000 in
theorem oth3 (p q t : Nat) (n m : Int) (w : World) (h : ¬ t = 65) (h2 : ¬ t = 75) :
    Calls Try.prog 30 #[.agg #[.iface 75 (.pointer (some ⟨p, 0, none⟩)), .int .i32 n], .agg #[.iface t (.pointer (some ⟨q, 0, none⟩)), .int .i32 m]] w (DP false false w) := by
  go_enter Try.func30, Try.ntmps30
  go_wp2_with fail
  go_region
  all_goals
    go_wp2_with fail
    go_ret2
    exact ⟨rfl, (by repeat (first | with_reducible exact Below.refl _ _ | (with_reducible refine Below.drew ?_) | (with_reducible refine below_drewN ?_ _) | (with_reducible refine Below.alloc ?_ (by simp; try omega) _)))⟩

set_option maxRecDepth 100000 in
set_option maxHeartbeats 400000 in
theorem oth4 (p q t : Nat) (n m : Int) (w : World) (h : ¬ t = 65) (h2 : ¬ t = 82) :
    Calls Try.prog 30 #[.agg #[.iface 82 (.pointer (some ⟨p, 0, none⟩)), .int .i32 n], .agg #[.iface t (.pointer (some ⟨q, 0, none⟩)), .int .i32 m]] w (DP false false w) := by
  go_enter Try.func30, Try.ntmps30
  go_wp2_with fail
  go_region
  all_goals
    go_wp2_with fail
    go_ret2
    exact ⟨rfl, (by repeat (first | with_reducible exact Below.refl _ _ | (with_reducible refine Below.drew ?_) | (with_reducible refine below_drewN ?_ _) | (with_reducible refine Below.alloc ?_ (by simp; try omega) _)))⟩

set_option maxRecDepth 100000 in
set_option maxHeartbeats 400000 in
theorem oth5 (p q t : Nat) (n m : Int) (w : World) (h : ¬ t = 65) (h2 : ¬ t = 88) :
    Calls Try.prog 30 #[.agg #[.iface 88 (.pointer (some ⟨p, 0, none⟩)), .int .i32 n], .agg #[.iface t (.pointer (some ⟨q, 0, none⟩)), .int .i32 m]] w (DP false false w) := by
  go_enter Try.func30, Try.ntmps30
  go_wp2_with fail
  go_region
  all_goals
    go_wp2_with fail
    go_ret2
    exact ⟨rfl, (by repeat (first | with_reducible exact Below.refl _ _ | (with_reducible refine Below.drew ?_) | (with_reducible refine below_drewN ?_ _) | (with_reducible refine Below.alloc ?_ (by simp; try omega) _)))⟩
end Go.Proofs.Ytgghakmfcodojaa
