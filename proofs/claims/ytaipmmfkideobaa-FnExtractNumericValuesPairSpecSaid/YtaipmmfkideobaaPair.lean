/- Proved here: a float64 that equals 0 is +0 or -0; contracts of the law's own float helpers (zzSameFloat, zzPosZero). -/
import Derived.Test.YtaipmmfkideobaaTrans
import Derived.WalkKit
import Derived.WalkSpells
import Derived.WalkLawsBesides
import Derived.Lib.Hide
namespace Go.Proofs.Ytaipmmfkideobaa
open Go.RowKit
set_option linter.unusedSimpArgs false
set_option linter.unusedVariables false
theorem read64 (f : Nat) : Ieee.double.read f = (if f % 9223372036854775808 < 4503599627370496 then .number (f / 9223372036854775808 % 2 == 1) (f % 9223372036854775808) (-1074) else if f % 9223372036854775808 < 9218868437227405312 then .number (f / 9223372036854775808 % 2 == 1) (4503599627370496 + f % 9223372036854775808 % 4503599627370496) (-1074 + ((f % 9223372036854775808 / 4503599627370496 - 1 : Nat) : Int)) else if f % 9223372036854775808 = 9218868437227405312 then .infinity (f / 9223372036854775808 % 2 == 1) else .nan (f / 9223372036854775808 % 2 == 1) (f % 9223372036854775808 - 9218868437227405312)) := by
  unfold Ieee.Format.read
  have h1 : Ieee.double.signWeight = 9223372036854775808 := by decide
  have h2 : Ieee.double.binade = 4503599627370496 := by decide
  have h3 : Ieee.double.infRung = 9218868437227405312 := by decide
  have h4 : Ieee.double.leastPlace = -1074 := by decide
  simp only [h1, h2, h3, h4]
theorem signed_zero {s : Bool} {m up : Nat} (h : Ieee.signed s m up = 0) : m = 0 := by
  unfold Ieee.signed at h
  have h2 : (m <<< up : Nat) = 0 := by
    generalize (m <<< up : Nat) = x at h ⊢
    cases s
    · rw [if_neg (by simp)] at h; omega
    · rw [if_pos rfl] at h; omega
  rw [Nat.shiftLeft_eq] at h2
  have : 0 < 2 ^ up := Nat.two_pow_pos up
  rcases Nat.mul_eq_zero.1 h2 with h3 | h3
  · exact h3
  · omega
theorem number_zero {s : Bool} {m : Nat} {i : Int} (h : (Ieee.Datum.number s m i).order (.number false 0 (-1074)) = some .eq) : m = 0 := by
  simp only [Ieee.Datum.order, Option.some.injEq] at h
  have h1 := Std.LawfulEqOrd.eq_of_compare h
  have h2 : Ieee.signed false 0 (-1074 - min i (-1074)).toNat = 0 := by simp [Ieee.signed]
  rw [h2] at h1
  exact signed_zero h1
theorem float_zero (f : Nat) (hf : f < 18446744073709551616) (h : FloatKind.f64.format.order f 0 = some .eq) : f = 0 ∨ f = 9223372036854775808 := by
  have h : (Ieee.double.read f).order (Ieee.double.read 0) = some .eq := h
  rw [show Ieee.double.read 0 = .number false 0 (-1074) from by rw [read64]; rfl, read64] at h
  split at h
  · have := number_zero h
    omega
  · split at h
    · have := number_zero h
      omega
    · split at h
      · cases hb : (f / 9223372036854775808 % 2 == 1) <;> rw [hb] at h <;> simp [Ieee.Datum.order] at h
      · simp [Ieee.Datum.order] at h

theorem q1 (w : World) : (binOp .quo 37 (.float .f64 4607182418800017408) (.float .f64 0)).run Try.prog w = .ok (.float .f64 9218868437227405312) w := by kernel_rfl
theorem q2 (w : World) : (binOp .quo 37 (.float .f64 4607182418800017408) (.float .f64 9223372036854775808)).run Try.prog w = .ok (.float .f64 18442240474082181120) w := by kernel_rfl
theorem o1 : FloatKind.f64.format.order 0 0 = some .eq := by kernel_rfl
theorem o2 : FloatKind.f64.format.order 9218868437227405312 9218868437227405312 = some .eq := by kernel_rfl
theorem o3 : FloatKind.f64.format.order 9218868437227405312 0 = some .gt := by kernel_rfl
theorem o4 : FloatKind.f64.format.order 9223372036854775808 0 = some .eq := by kernel_rfl
theorem o5 : FloatKind.f64.format.order 18442240474082181120 18442240474082181120 = some .eq := by kernel_rfl
theorem o6 : FloatKind.f64.format.order 9223372036854775808 9223372036854775808 = some .eq := by kernel_rfl
attribute [local go_sem] q1 q2 o1 o2 o3 o4 o5 o6
set_option maxRecDepth 100000 in
theorem pos_any (w : World) :
    Calls Try.prog 24 #[.float .f64 0] w fun e w' => e = .returned (.bool true) ∧ w = w' := by
  go_enter Try.func24, Try.ntmps24
  go_wp2_with fail
  go_ret
  exact ⟨rfl, rfl⟩
set_option maxRecDepth 100000 in
theorem same0 (w : World) :
    Calls Try.prog 23 #[.float .f64 0, .float .f64 0] w fun e w' => e = .returned (.bool true) ∧ w = w' := by
  go_enter Try.func23, Try.ntmps23
  go_wp2_with fail
  go_ret
  exact ⟨rfl, rfl⟩
set_option maxRecDepth 100000 in
theorem sameN (w : World) :
    Calls Try.prog 23 #[.float .f64 9223372036854775808, .float .f64 9223372036854775808] w fun e w' => e = .returned (.bool true) ∧ w = w' := by
  go_enter Try.func23, Try.ntmps23
  go_wp2_with fail
  go_ret
  exact ⟨rfl, rfl⟩
set_option maxRecDepth 100000 in
theorem same_any (f : Nat) (hf : f < 18446744073709551616) (w : World) :
    Calls Try.prog 23 #[.float .f64 f, .float .f64 f] w fun e w' => e = .returned (.bool true) ∧ w = w' := by
  by_cases hz : FloatKind.f64.format.order f 0 = some .eq
  · rcases float_zero f hf hz with rfl | rfl
    · exact same0 w
    · exact sameN w
  · clear hf
    have h0 : (FloatKind.f64.format.order f 0 == some .eq) = false := by simpa using hz
    clear hz
    by_cases hn : FloatKind.f64.format.order f f = some .eq
    · have h1 : (FloatKind.f64.format.order f f != some .eq) = false := by simp [hn]
      clear hn
      go_enter Try.func23, Try.ntmps23
      go_wp2_with fail
      go_ret
      exact ⟨rfl, rfl⟩
    · have h1 : (FloatKind.f64.format.order f f != some .eq) = true := by simpa using hn
      clear hn
      go_enter Try.func23, Try.ntmps23
      go_wp2_with fail
      go_ret
      exact ⟨rfl, rfl⟩

theorem num38_true (cs : List Int) (n f : Nat) (a : Option Addr) (len cap : Nat) (d : Value) (w : World) (h : Chain w n f (.slice a len cap) cs d) (hb : numOf cs n = true) :
    Calls Try.prog 38 #[d] w fun e w' => e = .returned (.tuple #[.float .f64 f, .bool true]) ∧ w = w' := by
  have C := num_any w n f a len cap cs d h
  rw [hb] at C
  exact C

theorem num38_false (cs : List Int) (n f : Nat) (a : Option Addr) (len cap : Nat) (d : Value) (w : World) (h : Chain w n f (.slice a len cap) cs d) (hb : numOf cs n = false) :
    Calls Try.prog 38 #[d] w fun e w' => e = .returned (.tuple #[.float .f64 0, .bool false]) ∧ w = w' := by
  have C := num_any w n f a len cap cs d h
  rw [hb] at C
  exact C


set_option maxRecDepth 100000 in
set_option maxHeartbeats 1000000 in
theorem vals_tt (cs : List Int) (n f : Nat) (d : Value) (cs' : List Int) (n' f' : Nat) (d' : Value) (w : World) (h : Chain w n f (.slice none 0 0) cs d) (h' : Chain w n' f' (.slice none 0 0) cs' d') (hb : numOf cs n = true) (hb' : numOf cs' n' = true) :
    Calls Try.prog 40 #[.agg #[d, .int .i32 0], .agg #[d', .int .i32 0]] w fun e w' => e = .returned (.tuple #[.float .f64 f, .float .f64 f', .bool true]) ∧ Below w.heap.size w w' := by
  have K1 := Lib.hid (fun W (hW : Below w.heap.size w W) => num38_true cs n f none 0 0 d W (h.below hW) hb)
  have K2 := Lib.hid (fun W (hW : Below w.heap.size w W) => num38_true cs' n' f' none 0 0 d' W (h'.below hW) hb')
  have B : ∀ o1 o2, Below w.heap.size w ((w.alloc o1).alloc o2) := fun o1 o2 => ((Below.refl _ _).alloc (Nat.le_refl _) _).alloc (by simp) _
  have HB := Lib.hid B
  clear B h h' hb hb'
  go_enter Try.func40, Try.ntmps40
  go_wp2_with fail
  refine (K1.out _ (HB.out _ _)).mono ?_
  rintro e w' ⟨rfl, rfl⟩
  go_wp2_with fail
  refine (K2.out _ (HB.out _ _)).mono ?_
  rintro e w' ⟨rfl, rfl⟩
  go_wp2_with fail
  go_ret3
  exact ⟨rfl, HB.out _ _⟩
set_option maxRecDepth 100000 in
set_option maxHeartbeats 1000000 in
theorem zvals_tt (cs : List Int) (n f : Nat) (d : Value) (cs' : List Int) (n' f' : Nat) (d' : Value) (w : World) (h : Chain w n f (.slice none 0 0) cs d) (h' : Chain w n' f' (.slice none 0 0) cs' d') (hb : numOf cs n = true) (hb' : numOf cs' n' = true) :
    Calls Try.prog 22 #[.agg #[d, .int .i32 0], .agg #[d', .int .i32 0]] w fun e w' => e = .returned (.tuple #[.float .f64 f, .float .f64 f', .bool true]) ∧ Below w.heap.size w w' := by
  have B : ∀ o1 o2, Below w.heap.size w ((w.alloc o1).alloc o2) := fun o1 o2 => ((Below.refl _ _).alloc (Nat.le_refl _) _).alloc (by simp) _
  have K := Lib.hid (fun W (hW : Below w.heap.size w W) => vals_tt cs n f d cs' n' f' d' W (h.below hW) (h'.below hW) hb hb')
  have HB := Lib.hid B
  clear B h h' hb hb'
  go_enter Try.func22, Try.ntmps22
  go_wp2_with fail
  refine (K.out _ (HB.out _ _)).mono ?_
  rintro e w1 ⟨rfl, hb1⟩
  have B1 : Below w.heap.size w w1 := (HB.out _ _).trans (hb1.mono (by simp; omega))
  clear hb1
  go_wp2_with fail
  go_ret3
  exact ⟨rfl, B1⟩


set_option maxRecDepth 100000 in
set_option maxHeartbeats 1000000 in
theorem vals_tf (cs : List Int) (n f : Nat) (d : Value) (cs' : List Int) (n' f' : Nat) (d' : Value) (w : World) (h : Chain w n f (.slice none 0 0) cs d) (h' : Chain w n' f' (.slice none 0 0) cs' d') (hb : numOf cs n = true) (hb' : numOf cs' n' = false) :
    Calls Try.prog 40 #[.agg #[d, .int .i32 0], .agg #[d', .int .i32 0]] w fun e w' => e = .returned (.tuple #[.float .f64 0, .float .f64 0, .bool false]) ∧ Below w.heap.size w w' := by
  have K1 := Lib.hid (fun W (hW : Below w.heap.size w W) => num38_true cs n f none 0 0 d W (h.below hW) hb)
  have K2 := Lib.hid (fun W (hW : Below w.heap.size w W) => num38_false cs' n' f' none 0 0 d' W (h'.below hW) hb')
  have B : ∀ o1 o2, Below w.heap.size w ((w.alloc o1).alloc o2) := fun o1 o2 => ((Below.refl _ _).alloc (Nat.le_refl _) _).alloc (by simp) _
  have HB := Lib.hid B
  clear B h h' hb hb'
  go_enter Try.func40, Try.ntmps40
  go_wp2_with fail
  refine (K1.out _ (HB.out _ _)).mono ?_
  rintro e w' ⟨rfl, rfl⟩
  go_wp2_with fail
  refine (K2.out _ (HB.out _ _)).mono ?_
  rintro e w' ⟨rfl, rfl⟩
  go_wp2_with fail
  go_ret3
  exact ⟨rfl, HB.out _ _⟩
set_option maxRecDepth 100000 in
set_option maxHeartbeats 1000000 in
theorem zvals_tf (cs : List Int) (n f : Nat) (d : Value) (cs' : List Int) (n' f' : Nat) (d' : Value) (w : World) (h : Chain w n f (.slice none 0 0) cs d) (h' : Chain w n' f' (.slice none 0 0) cs' d') (hb : numOf cs n = true) (hb' : numOf cs' n' = false) :
    Calls Try.prog 22 #[.agg #[d, .int .i32 0], .agg #[d', .int .i32 0]] w fun e w' => e = .returned (.tuple #[.float .f64 0, .float .f64 0, .bool false]) ∧ Below w.heap.size w w' := by
  have B : ∀ o1 o2, Below w.heap.size w ((w.alloc o1).alloc o2) := fun o1 o2 => ((Below.refl _ _).alloc (Nat.le_refl _) _).alloc (by simp) _
  have K := Lib.hid (fun W (hW : Below w.heap.size w W) => vals_tf cs n f d cs' n' f' d' W (h.below hW) (h'.below hW) hb hb')
  have HB := Lib.hid B
  clear B h h' hb hb'
  go_enter Try.func22, Try.ntmps22
  go_wp2_with fail
  refine (K.out _ (HB.out _ _)).mono ?_
  rintro e w1 ⟨rfl, hb1⟩
  have B1 : Below w.heap.size w w1 := (HB.out _ _).trans (hb1.mono (by simp; omega))
  clear hb1
  go_wp2_with fail
  go_ret3
  exact ⟨rfl, B1⟩


set_option maxRecDepth 100000 in
set_option maxHeartbeats 1000000 in
theorem vals_f (cs : List Int) (n f : Nat) (d : Value) (cs' : List Int) (n' f' : Nat) (d' : Value) (w : World) (h : Chain w n f (.slice none 0 0) cs d) (h' : Chain w n' f' (.slice none 0 0) cs' d') (hb : numOf cs n = false) :
    Calls Try.prog 40 #[.agg #[d, .int .i32 0], .agg #[d', .int .i32 0]] w fun e w' => e = .returned (.tuple #[.float .f64 0, .float .f64 0, .bool false]) ∧ Below w.heap.size w w' := by
  have K1 := Lib.hid (fun W (hW : Below w.heap.size w W) => num38_false cs n f none 0 0 d W (h.below hW) hb)

  have B : ∀ o1 o2, Below w.heap.size w ((w.alloc o1).alloc o2) := fun o1 o2 => ((Below.refl _ _).alloc (Nat.le_refl _) _).alloc (by simp) _
  have HB := Lib.hid B
  clear B h h' hb
  go_enter Try.func40, Try.ntmps40
  go_wp2_with fail
  refine (K1.out _ (HB.out _ _)).mono ?_
  rintro e w' ⟨rfl, rfl⟩
  go_wp2_with fail
  go_ret3
  exact ⟨rfl, HB.out _ _⟩
set_option maxRecDepth 100000 in
set_option maxHeartbeats 1000000 in
theorem zvals_f (cs : List Int) (n f : Nat) (d : Value) (cs' : List Int) (n' f' : Nat) (d' : Value) (w : World) (h : Chain w n f (.slice none 0 0) cs d) (h' : Chain w n' f' (.slice none 0 0) cs' d') (hb : numOf cs n = false) :
    Calls Try.prog 22 #[.agg #[d, .int .i32 0], .agg #[d', .int .i32 0]] w fun e w' => e = .returned (.tuple #[.float .f64 0, .float .f64 0, .bool false]) ∧ Below w.heap.size w w' := by
  have B : ∀ o1 o2, Below w.heap.size w ((w.alloc o1).alloc o2) := fun o1 o2 => ((Below.refl _ _).alloc (Nat.le_refl _) _).alloc (by simp) _
  have K := Lib.hid (fun W (hW : Below w.heap.size w W) => vals_f cs n f d cs' n' f' d' W (h.below hW) (h'.below hW) hb)
  have HB := Lib.hid B
  clear B h h' hb
  go_enter Try.func22, Try.ntmps22
  go_wp2_with fail
  refine (K.out _ (HB.out _ _)).mono ?_
  rintro e w1 ⟨rfl, hb1⟩
  have B1 : Below w.heap.size w w1 := (HB.out _ _).trans (hb1.mono (by simp; omega))
  clear hb1
  go_wp2_with fail
  go_ret3
  exact ⟨rfl, B1⟩
end Go.Proofs.Ytaipmmfkideobaa
