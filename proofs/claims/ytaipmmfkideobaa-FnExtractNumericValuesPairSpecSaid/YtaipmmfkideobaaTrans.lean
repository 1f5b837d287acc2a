/- Proved here: the contract of zzTransparent, and the two extractors' contracts by their answer. Conditions as stated. -/
import Derived.Test.YtaipmmfkideobaaChainB
import Derived.WalkKit
import Derived.WalkSpells
import Derived.WalkLawsBesides
import Derived.Lib.Hide
namespace Go.Proofs.Ytaipmmfkideobaa
open Go.RowKit
set_option linter.unusedSimpArgs false
set_option linter.unusedVariables false

theorem tr_take (zs : List Int) (k : Nat) (hk : k < zs.length) : tr (zs.take (k + 1)) = (tr (zs.take k) && decide (zs.getD k 0 % 5 ≤ 1)) := by
  have h : zs.getD k 0 = zs[k] := by simp [List.getD, hk]
  rw [List.take_succ_eq_append_getElem hk, h]
  unfold tr
  rw [List.all_append]
  simp
theorem tr_false (zs : List Int) (k len : Nat) (hk : k < len) (hl : k < zs.length) (h : 1 < zs.getD k 0 % 5) : tr (zs.take len) = false := by
  have h2 : (zs.take len)[k]? = some (zs.getD k 0) := by
    rw [List.getElem?_take_of_lt hk]; simp [List.getD, hl]
  have hm : zs.getD k 0 ∈ zs.take len := List.mem_of_getElem? h2
  unfold tr
  rw [List.all_eq_false]
  exact ⟨_, hm, by rw [Bool.not_eq_true, decide_eq_false_iff_not]; omega⟩
set_option maxRecDepth 100000 in
set_option maxHeartbeats 1000000 in
theorem tr_any (a : Option Addr) (len cap : Nat) (zs : List Int) (w : World) (hrow : Row .u8 w a len zs) (hlen : len ≤ 1048576) (hz : ∀ z ∈ zs, 0 ≤ z ∧ z ≤ 255) :
    Calls Try.prog 20 #[.slice a len cap] w fun e w' => e = .returned (.bool (tr (zs.take len))) ∧ w = w' := by
  have HR := Lib.hid hrow
  have HZ := Lib.hid hz
  clear hrow hz
  go_enter Try.func20, Try.ntmps20
  go_wp2_with fail
  go_loop [3] (fun i => ∃ k : Nat, k ≤ len ∧ i = .int .i64 k ∧ Hid (tr (zs.take k) = true)) (fun i => len - (intOf i).toNat)
  case atStart => exact ⟨0, by omega, rfl, Lib.hid (by simp [tr])⟩
  case round =>
    obtain ⟨k, hk, rfl, H⟩ := hrel
    by_cases hlt : k < len
    · obtain ⟨B, off, ha, hc⟩ := HR.out.2 (by omega)
      have hcell := hc k hlt
      clear hc
      have hl : k < zs.length := by have := HR.out.1; omega
      have hz := HZ.out (zs.getD k 0) (by simp [List.getD, hl])
      rw [ha]
      obtain ⟨z, hzz⟩ : ∃ z, z = zs.getD k 0 := ⟨_, rfl⟩
      rw [← hzz] at hcell hz
      obtain ⟨hz0, hz1⟩ := hz
      have HZZ := Lib.hid hzz
      clear hzz ha
      by_cases h5 : 1 < z % 5
      · have F := Lib.hid (tr_false zs k len hlt hl (by rw [← HZZ.out]; exact h5))
        go_wp2_with fail
        go_ret
        exact ⟨by rw [F.out]; rfl, rfl⟩
      · have F := Lib.hid (tr_take zs k hl)
        go_wp2_with fail
        go_round
        case rel => exact ⟨k + 1, by omega, by go_num, Lib.hid (by rw [F.out, H.out, ← HZZ.out]; simp; omega)⟩
        case measure => simp [intOf]; omega
    · have e : k = len := by omega
      subst e
      go_wp2_with fail
      go_ret
      exact ⟨by rw [H.out]; rfl, rfl⟩

set_option maxRecDepth 100000 in
set_option maxHeartbeats 1000000 in
theorem num_true (cs : List Int) (n f : Nat) (a : Option Addr) (len cap : Nat) (d : Value) (w : World) (h : Chain w n f (.slice a len cap) cs d) (hb : numOf cs n = true) :
    Calls Try.prog 18 #[d] w fun e w' => e = .returned (.tuple #[.float .f64 f, .bool true]) ∧ w = w' := by
  have C := num_any w n f a len cap cs d h
  rw [hb] at C
  have C' : Calls Try.prog 38 #[d] w fun e w' => e = .returned (.tuple #[.float .f64 f, .bool true]) ∧ w = w' := C
  have HC := Lib.hid C'
  clear C C' hb h
  go_enter Try.func18, Try.ntmps18
  go_wp2_with (first | (go_at_call 38; refine HC.out.mono ?_; rintro e w' ⟨rfl, rfl⟩))
  go_ret2
  exact ⟨rfl, rfl⟩

set_option maxRecDepth 100000 in
set_option maxHeartbeats 1000000 in
theorem num_false (cs : List Int) (n f : Nat) (a : Option Addr) (len cap : Nat) (d : Value) (w : World) (h : Chain w n f (.slice a len cap) cs d) (hb : numOf cs n = false) :
    Calls Try.prog 18 #[d] w fun e w' => e = .returned (.tuple #[.float .f64 0, .bool false]) ∧ w = w' := by
  have C := num_any w n f a len cap cs d h
  rw [hb] at C
  have C' : Calls Try.prog 38 #[d] w fun e w' => e = .returned (.tuple #[.float .f64 0, .bool false]) ∧ w = w' := C
  have HC := Lib.hid C'
  clear C C' hb h
  go_enter Try.func18, Try.ntmps18
  go_wp2_with (first | (go_at_call 38; refine HC.out.mono ?_; rintro e w' ⟨rfl, rfl⟩))
  go_ret2
  exact ⟨rfl, rfl⟩

set_option maxRecDepth 100000 in
set_option maxHeartbeats 1000000 in
theorem str_true (cs : List Int) (n f : Nat) (a : Option Addr) (len cap : Nat) (d : Value) (w : World) (h : Chain w n f (.slice a len cap) cs d) (hb : strOf cs n = true) :
    Calls Try.prog 19 #[d] w fun e w' => e = .returned (.tuple #[.slice a len cap, .bool true]) ∧ w = w' := by
  have C := str_any w n f a len cap cs d h
  rw [hb] at C
  have C' : Calls Try.prog 39 #[d] w fun e w' => e = .returned (.tuple #[.slice a len cap, .bool true]) ∧ w = w' := C
  have HC := Lib.hid C'
  clear C C' hb h
  go_enter Try.func19, Try.ntmps19
  go_wp2_with (first | (go_at_call 39; refine HC.out.mono ?_; rintro e w' ⟨rfl, rfl⟩))
  go_ret2
  exact ⟨rfl, rfl⟩

set_option maxRecDepth 100000 in
set_option maxHeartbeats 1000000 in
theorem str_false (cs : List Int) (n f : Nat) (a : Option Addr) (len cap : Nat) (d : Value) (w : World) (h : Chain w n f (.slice a len cap) cs d) (hb : strOf cs n = false) :
    Calls Try.prog 19 #[d] w fun e w' => e = .returned (.tuple #[.slice none 0 0, .bool false]) ∧ w = w' := by
  have C := str_any w n f a len cap cs d h
  rw [hb] at C
  have C' : Calls Try.prog 39 #[d] w fun e w' => e = .returned (.tuple #[.slice none 0 0, .bool false]) ∧ w = w' := C
  have HC := Lib.hid C'
  clear C C' hb h
  go_enter Try.func19, Try.ntmps19
  go_wp2_with (first | (go_at_call 39; refine HC.out.mono ?_; rintro e w' ⟨rfl, rfl⟩))
  go_ret2
  exact ⟨rfl, rfl⟩
end Go.Proofs.Ytaipmmfkideobaa
