/- Proved here: contracts of the law's own helpers mkOperand, ZZBinary, nullishShape, operandIs, ZZIsNil. Conditions: the nodes' cells, as stated. -/
import Derived.Test.YtonhekaakddneaaRRRNV
import Derived.WalkKit
import Derived.WalkSpells
import Derived.WalkLawsBesides
import Derived.Lib.Hide
namespace Go.Proofs.YtonhekaakddneaaRRR.fnIsBinaryNullAndUndefinedExactShape
open Go.RowKit
set_option linter.unusedSimpArgs false
set_option linter.unusedVariables false

def typ : Nat → Nat
  | 0 => 43
  | 1 => 82
  | 2 => 84
  | _ => 94
/-- v is an operand of kind n (an identifier with ref r, null, undefined, the number 0). -/
def Opd (w : World) (n : Nat) (r : Int) (v : Value) : Prop :=
  ∃ b, v = .iface (typ n) (.pointer (some ⟨b, 0, none⟩)) ∧ (n = 0 → w.cell? ⟨b, 0, none⟩ = some (.int .u32 0) ∧ w.cell? ⟨b, 1, none⟩ = some (.int .u32 r)) ∧ (n = 3 → w.cell? ⟨b, 0, none⟩ = some (.float .f64 0))
theorem Opd.below {w w' : World} {n : Nat} {r : Int} {v : Value} (h : Opd w n r v) (hb : Below w.heap.size w w') : Opd w' n r v := by
  obtain ⟨b, e, h0, h3⟩ := h
  exact ⟨b, e, fun hn => ⟨kept hb (h0 hn).1, kept hb (h0 hn).2⟩, fun hn => kept hb (h3 hn)⟩
def OpdPost (n : Nat) (r : Int) (w : World) (e : Ending) (w' : World) : Prop := ∃ v, e = .returned (.agg #[v, .int .i32 0]) ∧ Opd w' n r v ∧ Below w.heap.size w w'

set_option maxRecDepth 100000 in
set_option maxHeartbeats 1000000 in
theorem zz0 (r : Int) (w : World) : Calls Try.prog 26 #[.int .u32 r] w fun e w' => e = .returned (.agg #[.iface 43 (.pointer (some ⟨w.heap.size + 1, 0, none⟩)), .int .i32 0]) ∧ (w.alloc (.cells #[.iface 43 (.pointer (some ⟨w.heap.size + 1, 0, none⟩)), .int .i32 0] 28)).alloc (.cells #[.int .u32 0, .int .u32 r, .bool false, .bool false, .bool false] 67) = w' := by
  go_enter Try.func26, Try.ntmps26
  go_wp2_with fail
  exact bodyPost_ret (v := .agg #[.iface 43 (.pointer (some ⟨w.heap.size + 1, 0, none⟩)), .int .i32 0]) (by simp [results, Try.results26, go_sem]) rfl ⟨rfl, rfl⟩

set_option maxRecDepth 100000 in
set_option maxHeartbeats 1000000 in
theorem zz1 (w : World) : Calls Try.prog 27 #[] w fun e w' => e = .returned (.agg #[.iface 82 (.pointer (some ⟨w.heap.size + 1, 0, none⟩)), .int .i32 0]) ∧ (w.alloc (.cells #[.iface 82 (.pointer (some ⟨w.heap.size + 1, 0, none⟩)), .int .i32 0] 28)).alloc (.cells #[] 92) = w' := by
  go_enter Try.func27, Try.ntmps27
  go_wp2_with fail
  exact bodyPost_ret (v := .agg #[.iface 82 (.pointer (some ⟨w.heap.size + 1, 0, none⟩)), .int .i32 0]) (by simp [results, Try.results27, go_sem]) rfl ⟨rfl, rfl⟩

set_option maxRecDepth 100000 in
set_option maxHeartbeats 1000000 in
theorem zz2 (w : World) : Calls Try.prog 28 #[] w fun e w' => e = .returned (.agg #[.iface 84 (.pointer (some ⟨w.heap.size + 1, 0, none⟩)), .int .i32 0]) ∧ (w.alloc (.cells #[.iface 84 (.pointer (some ⟨w.heap.size + 1, 0, none⟩)), .int .i32 0] 28)).alloc (.cells #[] 93) = w' := by
  go_enter Try.func28, Try.ntmps28
  go_wp2_with fail
  exact bodyPost_ret (v := .agg #[.iface 84 (.pointer (some ⟨w.heap.size + 1, 0, none⟩)), .int .i32 0]) (by simp [results, Try.results28, go_sem]) rfl ⟨rfl, rfl⟩

set_option maxRecDepth 100000 in
set_option maxHeartbeats 1000000 in
theorem zz3 (w : World) : Calls Try.prog 29 #[.float .f64 0] w fun e w' => e = .returned (.agg #[.iface 94 (.pointer (some ⟨w.heap.size + 1, 0, none⟩)), .int .i32 0]) ∧ (w.alloc (.cells #[.iface 94 (.pointer (some ⟨w.heap.size + 1, 0, none⟩)), .int .i32 0] 28)).alloc (.cells #[.float .f64 0] 96) = w' := by
  go_enter Try.func29, Try.ntmps29
  go_wp2_with fail
  exact bodyPost_ret (v := .agg #[.iface 94 (.pointer (some ⟨w.heap.size + 1, 0, none⟩)), .int .i32 0]) (by simp [results, Try.results29, go_sem]) rfl ⟨rfl, rfl⟩

set_option maxRecDepth 100000 in
set_option maxHeartbeats 1000000 in
theorem mk0 (k r : Int) (w : World) (h0 : 0 ≤ k) (h1 : k ≤ 255) (hk : k % 4 = 0) :
    Calls Try.prog 7 #[.int .u8 k, .int .u32 r] w (OpdPost 0 r w) := by
  go_enter Try.func7, Try.ntmps7
  go_wp2_with (first | (go_at_call 26; refine (zz0 _ _).mono ?_; rintro e w' ⟨rfl, rfl⟩) | (go_at_call 27; refine (zz1 _).mono ?_; rintro e w' ⟨rfl, rfl⟩) | (go_at_call 28; refine (zz2 _).mono ?_; rintro e w' ⟨rfl, rfl⟩) | (go_at_call 29; refine (zz3 _).mono ?_; rintro e w' ⟨rfl, rfl⟩))
  exact bodyPost_ret (v := .agg #[.iface 43 (.pointer (some ⟨w.heap.size + 2, 0, none⟩)), .int .i32 0]) (by simp [results, Try.results7, go_sem]) rfl ⟨_, rfl, ⟨_, rfl, fun _ => ⟨by simp [go_sem], by simp [go_sem]⟩, fun h => absurd h (by decide)⟩, (by repeat (first | with_reducible exact Below.refl _ _ | (with_reducible refine Below.alloc ?_ (by simp; try omega) _) | (with_reducible refine Below.setCell ?_ (by simp; try omega) _)))⟩
set_option maxRecDepth 100000 in
set_option maxHeartbeats 1000000 in
theorem is0 (k r : Int) (v : Value) (w : World) (h0 : 0 ≤ k) (h1 : k ≤ 255) (hk : k % 4 = 0) (hv : Opd w 0 r v) :
    Calls Try.prog 11 #[.agg #[v, .int .i32 0], .int .u8 k, .int .u32 r] w fun e w' => e = .returned (.bool true) ∧ Below w.heap.size w w' := by
  obtain ⟨b, rfl, c0, c3⟩ := hv
  rw [show typ 0 = 43 from rfl]
  obtain ⟨d0, d1⟩ := c0 rfl
  have hb : b < w.heap.size := World.block_lt_of_cell? _ _ d0
  have hb1 : b < w.heap.size + 1 := by omega
  clear c0 c3
  go_enter Try.func11, Try.ntmps11
  go_wp2
  go_ret
  exact ⟨rfl, (by repeat (first | with_reducible exact Below.refl _ _ | (with_reducible refine Below.alloc ?_ (by simp; try omega) _) | (with_reducible refine Below.setCell ?_ (by simp; try omega) _)))⟩

set_option maxRecDepth 100000 in
set_option maxHeartbeats 1000000 in
theorem mk1 (k r : Int) (w : World) (h0 : 0 ≤ k) (h1 : k ≤ 255) (hk : k % 4 = 1) :
    Calls Try.prog 7 #[.int .u8 k, .int .u32 r] w (OpdPost 1 r w) := by
  go_enter Try.func7, Try.ntmps7
  go_wp2_with (first | (go_at_call 26; refine (zz0 _ _).mono ?_; rintro e w' ⟨rfl, rfl⟩) | (go_at_call 27; refine (zz1 _).mono ?_; rintro e w' ⟨rfl, rfl⟩) | (go_at_call 28; refine (zz2 _).mono ?_; rintro e w' ⟨rfl, rfl⟩) | (go_at_call 29; refine (zz3 _).mono ?_; rintro e w' ⟨rfl, rfl⟩))
  exact bodyPost_ret (v := .agg #[.iface 82 (.pointer (some ⟨w.heap.size + 2, 0, none⟩)), .int .i32 0]) (by simp [results, Try.results7, go_sem]) rfl ⟨_, rfl, ⟨_, rfl, fun h => absurd h (by decide), fun h => absurd h (by decide)⟩, (by repeat (first | with_reducible exact Below.refl _ _ | (with_reducible refine Below.alloc ?_ (by simp; try omega) _) | (with_reducible refine Below.setCell ?_ (by simp; try omega) _)))⟩
set_option maxRecDepth 100000 in
set_option maxHeartbeats 1000000 in
theorem is1 (k r : Int) (v : Value) (w : World) (h0 : 0 ≤ k) (h1 : k ≤ 255) (hk : k % 4 = 1) (hv : Opd w 1 r v) :
    Calls Try.prog 11 #[.agg #[v, .int .i32 0], .int .u8 k, .int .u32 r] w fun e w' => e = .returned (.bool true) ∧ Below w.heap.size w w' := by
  obtain ⟨b, rfl, c0, c3⟩ := hv
  rw [show typ 1 = 82 from rfl]
  clear c0 c3
  go_enter Try.func11, Try.ntmps11
  go_wp2
  go_ret
  exact ⟨rfl, (by repeat (first | with_reducible exact Below.refl _ _ | (with_reducible refine Below.alloc ?_ (by simp; try omega) _) | (with_reducible refine Below.setCell ?_ (by simp; try omega) _)))⟩

set_option maxRecDepth 100000 in
set_option maxHeartbeats 1000000 in
theorem mk2 (k r : Int) (w : World) (h0 : 0 ≤ k) (h1 : k ≤ 255) (hk : k % 4 = 2) :
    Calls Try.prog 7 #[.int .u8 k, .int .u32 r] w (OpdPost 2 r w) := by
  go_enter Try.func7, Try.ntmps7
  go_wp2_with (first | (go_at_call 26; refine (zz0 _ _).mono ?_; rintro e w' ⟨rfl, rfl⟩) | (go_at_call 27; refine (zz1 _).mono ?_; rintro e w' ⟨rfl, rfl⟩) | (go_at_call 28; refine (zz2 _).mono ?_; rintro e w' ⟨rfl, rfl⟩) | (go_at_call 29; refine (zz3 _).mono ?_; rintro e w' ⟨rfl, rfl⟩))
  exact bodyPost_ret (v := .agg #[.iface 84 (.pointer (some ⟨w.heap.size + 2, 0, none⟩)), .int .i32 0]) (by simp [results, Try.results7, go_sem]) rfl ⟨_, rfl, ⟨_, rfl, fun h => absurd h (by decide), fun h => absurd h (by decide)⟩, (by repeat (first | with_reducible exact Below.refl _ _ | (with_reducible refine Below.alloc ?_ (by simp; try omega) _) | (with_reducible refine Below.setCell ?_ (by simp; try omega) _)))⟩
set_option maxRecDepth 100000 in
set_option maxHeartbeats 1000000 in
theorem is2 (k r : Int) (v : Value) (w : World) (h0 : 0 ≤ k) (h1 : k ≤ 255) (hk : k % 4 = 2) (hv : Opd w 2 r v) :
    Calls Try.prog 11 #[.agg #[v, .int .i32 0], .int .u8 k, .int .u32 r] w fun e w' => e = .returned (.bool true) ∧ Below w.heap.size w w' := by
  obtain ⟨b, rfl, c0, c3⟩ := hv
  rw [show typ 2 = 84 from rfl]
  clear c0 c3
  go_enter Try.func11, Try.ntmps11
  go_wp2
  go_ret
  exact ⟨rfl, (by repeat (first | with_reducible exact Below.refl _ _ | (with_reducible refine Below.alloc ?_ (by simp; try omega) _) | (with_reducible refine Below.setCell ?_ (by simp; try omega) _)))⟩

set_option maxRecDepth 100000 in
set_option maxHeartbeats 1000000 in
theorem mk3 (k r : Int) (w : World) (h0 : 0 ≤ k) (h1 : k ≤ 255) (hk : k % 4 = 3) :
    Calls Try.prog 7 #[.int .u8 k, .int .u32 r] w (OpdPost 3 r w) := by
  go_enter Try.func7, Try.ntmps7
  go_wp2_with (first | (go_at_call 26; refine (zz0 _ _).mono ?_; rintro e w' ⟨rfl, rfl⟩) | (go_at_call 27; refine (zz1 _).mono ?_; rintro e w' ⟨rfl, rfl⟩) | (go_at_call 28; refine (zz2 _).mono ?_; rintro e w' ⟨rfl, rfl⟩) | (go_at_call 29; refine (zz3 _).mono ?_; rintro e w' ⟨rfl, rfl⟩))
  exact bodyPost_ret (v := .agg #[.iface 94 (.pointer (some ⟨w.heap.size + 2, 0, none⟩)), .int .i32 0]) (by simp [results, Try.results7, go_sem]) rfl ⟨_, rfl, ⟨_, rfl, fun h => absurd h (by decide), fun _ => by simp [go_sem]⟩, (by repeat (first | with_reducible exact Below.refl _ _ | (with_reducible refine Below.alloc ?_ (by simp; try omega) _) | (with_reducible refine Below.setCell ?_ (by simp; try omega) _)))⟩
set_option maxRecDepth 100000 in
set_option maxHeartbeats 1000000 in
theorem is3 (k r : Int) (v : Value) (w : World) (h0 : 0 ≤ k) (h1 : k ≤ 255) (hk : k % 4 = 3) (hv : Opd w 3 r v) :
    Calls Try.prog 11 #[.agg #[v, .int .i32 0], .int .u8 k, .int .u32 r] w fun e w' => e = .returned (.bool true) ∧ Below w.heap.size w w' := by
  obtain ⟨b, rfl, c0, c3⟩ := hv
  rw [show typ 3 = 94 from rfl]
  have d3 := c3 rfl
  have hb : b < w.heap.size := World.block_lt_of_cell? _ _ d3
  have hb1 : b < w.heap.size + 1 := by omega
  have ofl : FloatKind.f64.format.order 0 0 = some .eq := by kernel_rfl
  clear c0 c3
  go_enter Try.func11, Try.ntmps11
  go_wp2
  go_ret
  exact ⟨rfl, (by repeat (first | with_reducible exact Below.refl _ _ | (with_reducible refine Below.alloc ?_ (by simp; try omega) _) | (with_reducible refine Below.setCell ?_ (by simp; try omega) _)))⟩

theorem mk_any (n : Nat) (k r : Int) (w : World) (h0 : 0 ≤ k) (h1 : k ≤ 255) (hn : n < 4) (hk : k % 4 = n) : Calls Try.prog 7 #[.int .u8 k, .int .u32 r] w (OpdPost n r w) := by
  rcases n with _ | _ | _ | _ | n
  case succ => omega
  · exact mk0 k r w h0 h1 (by simpa using hk)
  · exact mk1 k r w h0 h1 (by simpa using hk)
  · exact mk2 k r w h0 h1 (by simpa using hk)
  · exact mk3 k r w h0 h1 (by simpa using hk)

theorem is_any (n : Nat) (k r : Int) (v : Value) (w : World) (h0 : 0 ≤ k) (h1 : k ≤ 255) (hn : n < 4) (hk : k % 4 = n) (hv : Opd w n r v) :
    Calls Try.prog 11 #[.agg #[v, .int .i32 0], .int .u8 k, .int .u32 r] w fun e w' => e = .returned (.bool true) ∧ Below w.heap.size w w' := by
  rcases n with _ | _ | _ | _ | n
  case succ => omega
  · exact is0 k r v w h0 h1 (by simpa using hk) hv
  · exact is1 k r v w h0 h1 (by simpa using hk) hv
  · exact is2 k r v w h0 h1 (by simpa using hk) hv
  · exact is3 k r v w h0 h1 (by simpa using hk) hv

def okS (n m : Nat) : Bool := (n == 0 && (m == 1 || m == 2)) || (m == 0 && (n == 1 || n == 2))
def refS (n m : Nat) (r s : Int) : Int := if n = 0 ∧ (m = 1 ∨ m = 2) then r else if m = 0 ∧ (n = 1 ∨ n = 2) then s else 0
def litS (n m : Nat) : Int := if n = 0 ∧ (m = 1 ∨ m = 2) then m else if m = 0 ∧ (n = 1 ∨ n = 2) then n else 0
set_option maxRecDepth 100000 in
set_option maxHeartbeats 4000000 in
theorem shape_any (n m : Nat) (k l r s : Int) (w : World) (h0 : 0 ≤ k) (h1 : k ≤ 255) (g0 : 0 ≤ l) (g1 : l ≤ 255) (hn : n < 4) (hm : m < 4) (hk : k % 4 = n) (hl : l % 4 = m) :
    Calls Try.prog 9 #[.int .u8 k, .int .u8 l, .int .u32 r, .int .u32 s] w fun e w' => e = .returned (.tuple #[.bool (okS n m), .int .u32 (refS n m r s), .int .u8 (litS n m)]) ∧ w = w' := by
  rcases n with _ | _ | _ | _ | n
  case succ => omega
  all_goals
    rcases m with _ | _ | _ | _ | m
    case succ => omega
    all_goals
      simp only [Nat.zero_add, Nat.reduceAdd, Int.ofNat_zero, Int.cast_ofNat_Int, Int.natCast_zero, Int.natCast_one] at hk hl
      go_enter Try.func9, Try.ntmps9
      go_wp2_with fail
      go_ret3
      exact ⟨by simp [okS, refS, litS, hk, hl], rfl⟩
set_option maxRecDepth 100000 in
set_option maxHeartbeats 1000000 in
theorem nil_any (w : World) : Calls Try.prog 10 #[.agg #[.nilIface, .int .i32 0]] w fun e w' => e = .returned (.bool true) ∧ Below w.heap.size w w' := by
  go_enter Try.func10, Try.ntmps10
  go_wp2_with fail
  go_ret
  exact ⟨rfl, (by repeat (first | with_reducible exact Below.refl _ _ | (with_reducible refine Below.alloc ?_ (by simp; try omega) _) | (with_reducible refine Below.setCell ?_ (by simp; try omega) _)))⟩
def BinPost (L R : Value) (op : Int) (w : World) (e : Ending) (w' : World) : Prop := ∃ b, e = .returned (.agg #[.iface 68 (.pointer (some ⟨b, 0, none⟩)), .int .i32 0]) ∧ Bin w' b L 0 R 0 op ∧ Below w.heap.size w w'
set_option maxRecDepth 100000 in
set_option maxHeartbeats 1000000 in
theorem bin_any (t s : Nat) (p q : Option Addr) (op : Int) (w : World) :
    Calls Try.prog 6 #[.int .u8 op, .agg #[.iface t (.pointer p), .int .i32 0], .agg #[.iface s (.pointer q), .int .i32 0]] w (BinPost (.iface t (.pointer p)) (.iface s (.pointer q)) op w) := by
  go_enter Try.func6, Try.ntmps6
  go_wp2_with fail
  exact bodyPost_ret (v := .agg #[.iface 68 (.pointer (some ⟨w.heap.size + 3, 0, none⟩)), .int .i32 0]) (by simp [results, Try.results6, go_sem]) rfl ⟨_, rfl, ⟨by simp [go_sem], by simp [go_sem], by simp [go_sem], by simp [go_sem], by simp [go_sem]⟩, (by repeat (first | with_reducible exact Below.refl _ _ | (with_reducible refine Below.alloc ?_ (by simp; try omega) _) | (with_reducible refine Below.setCell ?_ (by simp; try omega) _)))⟩
end Go.Proofs.YtonhekaakddneaaRRR.fnIsBinaryNullAndUndefinedExactShape
