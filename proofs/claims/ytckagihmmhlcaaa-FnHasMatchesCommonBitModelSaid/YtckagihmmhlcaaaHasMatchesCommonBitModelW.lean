/- Proved here: the walk of the law FnHasMatchesCommonBitModel (the flag test against the bit-by-bit model), for every pair of 8-bit values. -/
import Derived.Test.YtckagihmmhlcaaaProg
import Derived.WalkKit
import Derived.WalkSpells
import Derived.WalkLawsBesides
import Derived.Lib.Hide
namespace Go.Proofs.Ytckagihmmhlcaaa.fnHasMatchesCommonBitModel
open Go.RowKit
set_option maxHeartbeats 400000 in
theorem has_any (a b : Int) (w : World) :
    Calls Try.prog 8 #[.int .u8 a, .int .u8 b] w fun e w' => e = .returned (.bool (bits .and .u8 a b != 0)) ∧ w = w' := by
  go_enter Try.func8, Try.ntmps8
  go_wp2
  go_ret
  exact ⟨rfl, rfl⟩

def cb : Nat → Nat → Nat → Bool
  | 0, _, _ => false
  | n+1, a, b => if a % 2 = 1 ∧ b % 2 = 1 then true else cb n (a/2) (b/2)

theorem cb_eq : ∀ n a b, cb n a b = decide ((a &&& b) % 2^n ≠ 0)
  | 0, a, b => by simp [cb, Nat.mod_one]
  | n+1, a, b => by
    unfold cb
    rw [cb_eq n]
    have h1 : (a &&& b) / 2 = (a/2) &&& (b/2) := Nat.and_div_two
    have h2 : (a &&& b) % 2 = 1 ↔ a % 2 = 1 ∧ b % 2 = 1 := Nat.and_mod_two_eq_one
    rw [← h1]
    have h3 : (a &&& b) % 2^(n+1) = (a &&& b) % 2 + 2 * ((a &&& b) / 2 % 2^n) := by
      rw [Nat.pow_succ, Nat.mul_comm (2^n) 2, Nat.mod_mul]
    generalize (a &&& b) = z at *
    rw [h3]
    split
    · rename_i h; rw [← h2] at h; simp; omega
    · rename_i h; rw [← h2] at h
      have : z % 2 = 0 := by omega
      rw [this]; simp; omega

theorem bits_and_u8 (a b : Nat) (ha : a ≤ 255) (hb : b ≤ 255) : bits .and .u8 (a : Int) (b : Int) = ((a &&& b : Nat) : Int) := by
  exact u8_and_nat a b (by omega) (by omega)

theorem fin (a b : Nat) (ha : a ≤ 255) (hb : b ≤ 255) : cb 8 a b = (bits .and .u8 (a : Int) (b : Int) != 0) := by
  rw [bits_and_u8 a b ha hb, cb_eq]
  have : a &&& b < 2^8 := Nat.and_lt_two_pow a (by omega)
  rw [Nat.mod_eq_of_lt this]
  generalize a &&& b = z
  by_cases h : z = 0 <;> simp [h]

set_option maxHeartbeats 400000 in
theorem common_any (a b : Nat) (w : World) (ha : a ≤ 255) (hb : b ≤ 255) :
    Calls Try.prog 9 #[.int .u8 a, .int .u8 b] w fun e w' => e = .returned (.bool (cb 8 a b)) ∧ w = w' := by
  go_enter Try.func9, Try.ntmps9
  go_wp2
  go_loop [0, 1, 5] (fun x y i => ∃ k c d : Nat, k ≤ 8 ∧ c ≤ 255 ∧ d ≤ 255 ∧ i = .int .i64 k ∧ x = .int .u8 c ∧ y = .int .u8 d ∧ Hid (cb (8-k) c d = cb 8 a b)) (fun _ _ i => 8 - (intOf i).toNat)
  case atStart => exact ⟨0, a, b, by omega, ha, hb, rfl, rfl, rfl, Lib.hid rfl⟩
  case round =>
    obtain ⟨k, c, d, hk, hc, hd, rfl, rfl, rfl, H⟩ := hrel
    have step : k < 8 → cb (8-k) c d = if c % 2 = 1 ∧ d % 2 = 1 then true else cb (8-(k+1)) (c/2) (d/2) := by
      intro h
      have : 8 - k = (8 - (k+1)) + 1 := by omega
      rw [this]; rfl
    have S := Lib.hid step; clear step
    go_wp2
    · go_ret
      have e1 : c % 2 = 1 := by have : (c:Int) % 2 = 1 := by assumption
                                omega
      have e2 : d % 2 = 1 := by have : ((d:Int) % 2 == 1) = true := by assumption
                                simp at this; omega
      have e3 : k < 8 := by have : (k:Int) < 8 := by assumption
                            omega
      have := S.out e3
      rw [if_pos ⟨e1, e2⟩, H.out] at this
      exact ⟨by rw [this]; rfl, rfl⟩
    · have e2 : ¬ d % 2 = 1 := by have : ((d:Int) % 2 == 1) = false := by assumption
                                  simp at this; omega
      have e3 : k < 8 := by have : (k:Int) < 8 := by assumption
                            omega
      have e4 := S.out e3
      rw [if_neg (fun h => e2 h.2), H.out] at e4
      go_round
      case rel => exact ⟨k+1, c/2, d/2, by omega, by omega, by omega, by go_num, by go_num, by go_num, Lib.hid e4.symm⟩
      case measure => simp [intOf]; omega
    · have e2 : ¬ c % 2 = 1 := by have : ¬ ((c:Int) % 2 = 1) := by assumption
                                  omega
      have e3 : k < 8 := by have : (k:Int) < 8 := by assumption
                            omega
      have e4 := S.out e3
      rw [if_neg (fun h => e2 h.1), H.out] at e4
      go_round
      case rel => exact ⟨k+1, c/2, d/2, by omega, by omega, by omega, by go_num, by go_num, by go_num, Lib.hid e4.symm⟩
      case measure => simp [intOf]; omega
    · go_ret
      have e3 : ¬ k < 8 := by have : 8 ≤ (k:Int) := by assumption
                              omega
      have : 8 - k = 0 := by omega
      have e4 := H.out
      rw [this] at e4
      exact ⟨by rw [← e4]; rfl, rfl⟩

theorem nat_of_wf {a : Int} (h : (Lit.int .u8 a).wf = true) : ∃ n : Nat, a = n ∧ n ≤ 255 := by
  have hmin : IntKind.u8.min = 0 := rfl
  have hmax : IntKind.u8.max = 255 := rfl
  simp only [Lit.wf, Bool.and_eq_true, decide_eq_true_eq] at h
  exact ⟨a.toNat, by omega, by omega⟩

set_option maxHeartbeats 400000 in
theorem walk (a0 : Int) (a1 : Int) (w : World) (w0 : (Lit.int .u8 a0).wf = true) (w1 : (Lit.int .u8 a1).wf = true) :
    Calls Try.prog 3 #[.int .u8 a0, .int .u8 a1] w fun e w' => e = .returned (.bool true) ∧ Below w.heap.size w w' := by
  obtain ⟨a, rfl, ha⟩ := nat_of_wf w0
  obtain ⟨b, rfl, hb⟩ := nat_of_wf w1
  clear w0 w1
  have F := Lib.hid (fin a b ha hb)
  go_enter Try.func3, Try.ntmps3
  go_wp2_with fail
  refine (has_any _ _ _).mono ?_
  rintro e w' ⟨rfl, rfl⟩
  go_wp2_with fail
  refine (common_any _ _ _ ha hb).mono ?_
  rintro e w' ⟨rfl, rfl⟩
  rw [F.out]
  go_wp2_with fail
  go_ret
  exact ⟨by simp, Below.refl _ _⟩
end Go.Proofs.Ytckagihmmhlcaaa.fnHasMatchesCommonBitModel
