/- Proved here: the contracts of zzCont and zzDecode. Conditions as stated. -/
import Derived.Test.YtlbkdflbhhbibaaDoorBase
import Derived.Test.YtlbkdflbhhbibaaDoorUPA
import Derived.WalkKit
import Derived.WalkSpells
import Derived.WalkLawsBesides
import Derived.Lib.Hide
import Derived.Lib.SliceRun
import Derived.Deep.RegionWith
import Derived.OwnWalk
import Derived.Laws.OwnMore
import Derived.BigRegion
namespace Go.Proofs.YtlbkdflbhhbibaaDoor
open Go.RowKit Go.Lib
set_option linter.unusedSimpArgs false
set_option linter.unusedVariables false

theorem get_of_lt (s : ByteArray) (k : Nat) (h : k < s.size) : (s.get! k).toNat = (s[k]'h).toNat := by
  have : s.get! k = s[k]'h := by cases s with | mk d => exact getElem!_pos d k h
  rw [this]
def cont (s : ByteArray) (j lo hi : Nat) : Bool := decide (j < s.size) && (decide (lo ≤ (s.get! j).toNat) && decide ((s.get! j).toNat ≤ hi))
theorem cont_true {s : ByteArray} {j lo hi : Nat} (h : cont s j lo hi = true) : j < s.size ∧ lo ≤ (s.get! j).toNat ∧ (s.get! j).toNat ≤ hi := by
  simpa [cont] using h
theorem cont_false {s : ByteArray} {j lo hi : Nat} (h : cont s j lo hi = false) (hj : j < s.size) : (s.get! j).toNat < lo ∨ hi < (s.get! j).toNat := by
  simp [cont, hj] at h
  by_cases e : lo ≤ (s.get! j).toNat
  · have := h e; omega
  · omega
section
variable (s : ByteArray) (p : Nat)
theorem dec_a (h : (s.get! p).toNat < 128) : Utf8.decode s p = ((s.get! p).toNat, 1) := by
  rw [decode_at]; unfold decodeN; rw [if_pos h]
variable (hp : p < s.size)
include hp
theorem dec_bad (h : (128 ≤ (s.get! p).toNat ∧ (s.get! p).toNat < 194) ∨ 245 ≤ (s.get! p).toNat) : Utf8.decode s p = (65533, 1) := by
  rw [decode_at]
  have h0 := (s.get! p).toNat_lt
  generalize (s.get! p).toNat = b0 at h h0 ⊢
  generalize (s.get! (p + 1)).toNat = b1
  generalize (s.get! (p + 2)).toNat = b2
  generalize (s.get! (p + 3)).toNat = b3
  unfold decodeN
  repeat' split
  all_goals first | rfl | (exfalso; omega) | (apply Prod.ext <;> simp only <;> omega)
theorem dec_two (h : 194 ≤ (s.get! p).toNat ∧ (s.get! p).toNat < 224) : Utf8.decode s p = if cont s (p + 1) 128 191 then ((s.get! p).toNat % 32 * 64 + (s.get! (p + 1)).toNat % 64, 2) else (65533, 1) := by
  have h1 := (s.get! (p + 1)).toNat_lt
  have h2 := (s.get! (p + 2)).toNat_lt
  have h3 := (s.get! (p + 3)).toNat_lt
  rw [decode_at, ← slow_C2 _ _ _ _ _ (by omega) h1 h2 h3 h]
  unfold slowN
  cases c : cont s (p + 1) 128 191
  · by_cases hj : p + 1 < s.size
    · have := cont_false c hj
      rw [if_neg (by omega), if_pos (by omega)]; rfl
    · rw [if_pos (by omega)]; rfl
  · obtain ⟨c1, c2, c3⟩ := cont_true c
    rw [if_neg (by omega), if_neg (by omega), if_pos (by omega)]; rfl
theorem dec_three (lo hi : Nat) (e : slowN (s.size - p) (s.get! p).toNat (s.get! (p + 1)).toNat (s.get! (p + 2)).toNat (s.get! (p + 3)).toNat 3 lo hi = decodeN (s.size - p) (s.get! p).toNat (s.get! (p + 1)).toNat (s.get! (p + 2)).toNat (s.get! (p + 3)).toNat) :
    Utf8.decode s p = if cont s (p + 1) lo hi && cont s (p + 2) 128 191 then ((s.get! p).toNat % 16 * 4096 + (s.get! (p + 1)).toNat % 64 * 64 + (s.get! (p + 2)).toNat % 64, 3) else (65533, 1) := by
  rw [decode_at, ← e]
  unfold slowN
  cases c : cont s (p + 1) lo hi
  · rw [Bool.false_and]
    by_cases hj : p + 1 < s.size
    · have := cont_false c hj
      by_cases hn : s.size - p < 3
      · rw [if_pos hn]; rfl
      · rw [if_neg hn, if_pos (by omega)]; rfl
    · rw [if_pos (by omega)]; rfl
  · obtain ⟨c1, c2, c3⟩ := cont_true c
    rw [Bool.true_and]
    cases d : cont s (p + 2) 128 191
    · by_cases hj : p + 2 < s.size
      · have := cont_false d hj
        rw [if_neg (by omega), if_neg (by omega), if_neg (by omega), if_pos (by omega)]; rfl
      · rw [if_pos (by omega)]; rfl
    · obtain ⟨d1, d2, d3⟩ := cont_true d
      rw [if_neg (by omega), if_neg (by omega), if_neg (by omega), if_neg (by omega), if_pos (by omega)]; rfl
theorem dec_four (lo hi : Nat) (e : slowN (s.size - p) (s.get! p).toNat (s.get! (p + 1)).toNat (s.get! (p + 2)).toNat (s.get! (p + 3)).toNat 4 lo hi = decodeN (s.size - p) (s.get! p).toNat (s.get! (p + 1)).toNat (s.get! (p + 2)).toNat (s.get! (p + 3)).toNat) :
    Utf8.decode s p = if cont s (p + 1) lo hi && (cont s (p + 2) 128 191 && cont s (p + 3) 128 191) then ((s.get! p).toNat % 8 * 262144 + (s.get! (p + 1)).toNat % 64 * 4096 + (s.get! (p + 2)).toNat % 64 * 64 + (s.get! (p + 3)).toNat % 64, 4) else (65533, 1) := by
  rw [decode_at, ← e]
  unfold slowN
  cases c : cont s (p + 1) lo hi
  · rw [Bool.false_and]
    by_cases hj : p + 1 < s.size
    · have := cont_false c hj
      by_cases hn : s.size - p < 4
      · rw [if_pos hn]; rfl
      · rw [if_neg hn, if_pos (by omega)]; rfl
    · rw [if_pos (by omega)]; rfl
  · obtain ⟨c1, c2, c3⟩ := cont_true c
    rw [Bool.true_and]
    cases d : cont s (p + 2) 128 191
    · rw [Bool.false_and]
      by_cases hj : p + 2 < s.size
      · have := cont_false d hj
        by_cases hn : s.size - p < 4
        · rw [if_pos hn]; rfl
        · rw [if_neg hn, if_neg (by omega), if_neg (by omega), if_pos (by omega)]; rfl
      · rw [if_pos (by omega)]; rfl
    · obtain ⟨d1, d2, d3⟩ := cont_true d
      rw [Bool.true_and]
      cases f : cont s (p + 3) 128 191
      · by_cases hj : p + 3 < s.size
        · have := cont_false f hj
          rw [if_neg (by omega), if_neg (by omega), if_neg (by omega), if_neg (by omega), if_neg (by omega), if_pos (by omega)]; rfl
        · rw [if_pos (by omega)]; rfl
      · obtain ⟨f1, f2, f3⟩ := cont_true f
        rw [if_neg (by omega), if_neg (by omega), if_neg (by omega), if_neg (by omega), if_neg (by omega), if_neg (by omega)]; rfl
end
theorem wraps_i64 (n : Int) (h₀ : 0 ≤ n) (h₁ : n < 2 ^ 63) : IntKind.i64.wrap n = n := by rw [IntKind.wrap_i64]; omega
theorem m31 (x : Nat) (h : x < 256) : bits .and .u8 (x : Int) 31 = ((x % 32 : Nat) : Int) := by
  have := bits_mask .u8 8 (by decide) wraps_u8 5 (by decide) (x : Int) (by omega) (by omega); simpa using this
theorem m63 (x : Nat) (h : x < 256) : bits .and .u8 (x : Int) 63 = ((x % 64 : Nat) : Int) := by
  have := bits_mask .u8 8 (by decide) wraps_u8 6 (by decide) (x : Int) (by omega) (by omega); simpa using this
theorem m15 (x : Nat) (h : x < 256) : bits .and .u8 (x : Int) 15 = ((x % 16 : Nat) : Int) := by
  have := bits_mask .u8 8 (by decide) wraps_u8 4 (by decide) (x : Int) (by omega) (by omega); simpa using this
theorem m7 (x : Nat) (h : x < 256) : bits .and .u8 (x : Int) 7 = ((x % 8 : Nat) : Int) := by
  have := bits_mask .u8 8 (by decide) wraps_u8 3 (by decide) (x : Int) (by omega) (by omega); simpa using this
theorem j6 (x y : Nat) (hx : x < 1000000) (hy : y < 64) : bits .or .i64 ((x * 64 : Nat) : Int) (y : Int) = ((x * 64 + y : Nat) : Int) := by
  have := bits_join .i64 63 (by decide) wraps_i64 6 ((x * 64 : Nat) : Int) (y : Int) (by omega) (by omega) (by omega) (by omega) (by omega) (by omega); rw [this]; omega
theorem j12 (x y : Nat) (hx : x < 1000000) (hy : y < 4096) : bits .or .i64 ((x * 4096 : Nat) : Int) (y : Int) = ((x * 4096 + y : Nat) : Int) := by
  have := bits_join .i64 63 (by decide) wraps_i64 12 ((x * 4096 : Nat) : Int) (y : Int) (by omega) (by omega) (by omega) (by omega) (by omega) (by omega); rw [this]; omega
theorem j18 (x y : Nat) (hx : x < 1000000) (hy : y < 262144) : bits .or .i64 ((x * 262144 : Nat) : Int) (y : Int) = ((x * 262144 + y : Nat) : Int) := by
  have := bits_join .i64 63 (by decide) wraps_i64 18 ((x * 262144 : Nat) : Int) (y : Int) (by omega) (by omega) (by omega) (by omega) (by omega) (by omega); rw [this]; omega
theorem zcont (s : ByteArray) (j lo hi : Nat) (w : World) : Calls Tryd.prog 26 #[.string s, .int .i64 (j : Int), .int .u8 (lo : Int), .int .u8 (hi : Int)] w fun e w' => e = .returned (.bool (cont s j lo hi)) ∧ w = w' := by
  have j0 : (0 : Int) ≤ (j : Int) := Int.natCast_nonneg _
  by_cases hj : j < s.size
  · have hj1 : (j : Int) < (s.size : Int) := by omega
    obtain ⟨x, hx⟩ : ∃ x, x = (s[j]'hj).toNat := ⟨_, rfl⟩
    have hc : cont s j lo hi = (decide (lo ≤ x) && decide (x ≤ hi)) := by rw [hx, ← get_of_lt s j hj]; simp [cont, hj]
    have HC := Lib.hid hc
    have HX := Lib.hid hx
    clear hc
    by_cases h1 : lo ≤ x
    · have h1' : (lo : Int) ≤ (x : Int) := by omega
      by_cases h2 : x ≤ hi
      · have h2' : (x : Int) ≤ (hi : Int) := by omega
        have HD := Lib.hid (show cont s j lo hi = true by rw [HC.out]; simp [h1, h2])
        rw [hx] at h1' h2'
        clear hx h1 h2
        go_enter Tryd.func26, Tryd.ntmps26
        go_wp2_with fail
        go_ret
        exact ⟨congrArg (fun b => Ending.returned (.bool b)) HD.out.symm, rfl⟩
      · have h2' : ¬ (x : Int) ≤ (hi : Int) := by omega
        have HD := Lib.hid (show cont s j lo hi = false by rw [HC.out]; simp [h1, h2])
        rw [hx] at h1' h2'
        clear hx h1 h2
        go_enter Tryd.func26, Tryd.ntmps26
        go_wp2_with fail
        go_ret
        exact ⟨congrArg (fun b => Ending.returned (.bool b)) HD.out.symm, rfl⟩
    · have h1' : ¬ (lo : Int) ≤ (x : Int) := by omega
      have HD := Lib.hid (show cont s j lo hi = false by rw [HC.out]; simp [h1])
      rw [hx] at h1'
      clear hx h1
      go_enter Tryd.func26, Tryd.ntmps26
      go_wp2_with fail
      go_ret
      exact ⟨congrArg (fun b => Ending.returned (.bool b)) HD.out.symm, rfl⟩
  · have hj1 : ¬ (j : Int) < (s.size : Int) := by omega
    have HD := Lib.hid (show cont s j lo hi = false by simp [cont, hj])
    go_enter Tryd.func26, Tryd.ntmps26
    go_wp2_with fail
    go_ret
    exact ⟨congrArg (fun b => Ending.returned (.bool b)) HD.out.symm, rfl⟩
def DcP (s : ByteArray) (p : Nat) (w : World) (e : Ending) (w' : World) : Prop := e = .returned (.tuple #[.int .i64 ((Utf8.decode s p).1 : Nat), .int .i64 ((Utf8.decode s p).2 : Nat)]) ∧ ∃ k, w' = w.drewN k

set_option maxRecDepth 100000 in
set_option maxHeartbeats 8000000 in
theorem zdec (s : ByteArray) (p : Nat) (w : World) (hs : s.size ≤ 1048576) (hp : p < s.size) : Calls Tryd.prog 23 #[.string s, .int .i64 (p : Int)] w (DcP s p w) := by
  have p0 : (0 : Int) ≤ (p : Int) := Int.natCast_nonneg _
  have p1 : (p : Int) < (s.size : Int) := by omega
  obtain ⟨b0, hb0⟩ : ∃ b, b = (s.get! p).toNat := ⟨_, rfl⟩
  have B0 := Lib.hid (show (s[p]'hp).toNat = b0 from by rw [hb0, get_of_lt s p hp])
  have l0 : b0 < 256 := by rw [hb0]; exact (s.get! p).toNat_lt
  have h1 := (s.get! (p + 1)).toNat_lt
  have h2 := (s.get! (p + 2)).toNat_lt
  have h3 := (s.get! (p + 3)).toNat_lt
  have HB0 := Lib.hid hb0
  have HL1 := Lib.hid h1
  have HL2 := Lib.hid h2
  have HL3 := Lib.hid h3
  clear h1 h2 h3 hb0
  have hc : b0 < 128 ∨ (128 ≤ b0 ∧ b0 < 194) ∨ (194 ≤ b0 ∧ b0 < 224) ∨ b0 = 224 ∨ (225 ≤ b0 ∧ b0 < 237) ∨ b0 = 237 ∨ (238 ≤ b0 ∧ b0 < 240) ∨ b0 = 240 ∨ (241 ≤ b0 ∧ b0 < 244) ∨ b0 = 244 ∨ 245 ≤ b0 := by omega
  rcases hc with hc | hc | hc | hc | hc | hc | hc | hc | hc | hc | hc
  · have f0 : ((s[p]'hp).toNat : Int) < 128 := by rw [B0.out]; omega
    have DEC := Lib.hid (show Utf8.decode s p = (b0, 1) from by rw [HB0.out]; exact dec_a s p (by rw [← HB0.out]; exact hc))
    have HE := Lib.hid (show DcP s p w (.returned (.tuple #[.int .i64 (((s[p]'hp).toNat : Nat) : Int), .int .i64 1])) w from ⟨by rw [DEC.out, B0.out]; rfl, 0, rfl⟩)
    clear DEC
    go_enter Tryd.func23, Tryd.ntmps23
    go_wp2_with fail
    go_ret2
    exact HE.out
  · have f0 : ¬ ((s[p]'hp).toNat : Int) < 128 := by rw [B0.out]; omega
    have f1 : ¬ 194 ≤ ((s[p]'hp).toNat : Int) := by rw [B0.out]; omega
    have f2 : ¬ 224 ≤ ((s[p]'hp).toNat : Int) := by rw [B0.out]; omega
    have f3 : ¬ 240 ≤ ((s[p]'hp).toNat : Int) := by rw [B0.out]; omega
    have DEC := Lib.hid (show Utf8.decode s p = (65533, 1) from dec_bad s p hp (by rw [← HB0.out]; omega))
    have HE := Lib.hid (show DcP s p w (.returned (.tuple #[.int .i64 65533, .int .i64 1])) w from ⟨by rw [DEC.out]; rfl, 0, rfl⟩)
    clear DEC
    go_enter Tryd.func23, Tryd.ntmps23
    go_wp2_with fail
    go_ret2
    exact HE.out
  · have f0 : ¬ ((s[p]'hp).toNat : Int) < 128 := by rw [B0.out]; omega
    have f1 : 194 ≤ ((s[p]'hp).toNat : Int) := by rw [B0.out]; omega
    have f2 : ((s[p]'hp).toNat : Int) ≤ 223 := by rw [B0.out]; omega
    have DC := Lib.hid (dec_two s p hp (by rw [← HB0.out]; exact hc))
    cases hc1 : cont s (p + 1) 128 191 with
    | false =>
      have C1 := Lib.hid hc1
      have DEC := Lib.hid (show Utf8.decode s p = (65533, 1) from by rw [DC.out, hc1]; rfl)
      have HE := Lib.hid (show DcP s p w (.returned (.tuple #[.int .i64 65533, .int .i64 1])) w from ⟨by rw [DEC.out]; rfl, 0, rfl⟩)
      clear hc1 DC DEC
      go_enter Tryd.func23, Tryd.ntmps23
      go_wp2_with fail
      refine (zcont s (p + 1) 128 191 _).mono ?_
      rintro e w' ⟨rfl, rfl⟩
      rw [C1.out]
      go_wp2_with fail
      go_ret2
      exact HE.out
    | true =>
      have C1 := Lib.hid hc1
      have DEC := Lib.hid (show Utf8.decode s p = (b0 % 32 * 64 + (s.get! (p + 1)).toNat % 64, 2) from by rw [DC.out, hc1, HB0.out]; rfl)
      clear hc1 DC
      have q1 : p + 1 < s.size := (cont_true C1.out).1
      have q1' : (p : Int) + 1 < (s.size : Int) := by omega
      have q1'' : (0 : Int) ≤ (p : Int) + 1 := by omega
      have g1 : ((s[p + 1]'q1).toNat : Int) ≤ 255 := by have := (s[p + 1]'q1).toNat_lt; omega
      have g1' : (0 : Int) ≤ ((s[p + 1]'q1).toNat : Int) := Int.natCast_nonneg _
      have E1 := Lib.hid (show (s[p + 1]'q1).toNat = (s.get! (p + 1)).toNat from (get_of_lt s (p + 1) q1).symm)
      go_enter Tryd.func23, Tryd.ntmps23
      go_wp2_with fail
      refine (zcont s (p + 1) 128 191 _).mono ?_
      rintro e w' ⟨rfl, rfl⟩
      rw [C1.out]
      go_wp2_with fail
      have HE := Lib.hid (show DcP s p w (.returned (.tuple #[.int .i64 (bits .or .i64 (((s[p]'hp).toNat : Int) % 32 * 64) (((s[p + 1]'q1).toNat : Int) % 64)), .int .i64 2])) w from ⟨by
        rw [DEC.out, B0.out, E1.out, show (((b0 : Nat) : Int) % 32 * 64) = ((b0 % 32 * 64 : Nat) : Int) by omega, show ((((s.get! (p + 1)).toNat : Nat) : Int) % 64) = (((s.get! (p + 1)).toNat % 64 : Nat) : Int) by omega, j6 _ _ (by omega) (by omega)]
        rfl, 0, rfl⟩)
      go_ret2
      exact HE.out
  · have f0 : ¬ ((s[p]'hp).toNat : Int) < 128 := by rw [B0.out]; omega
    have f1 : 194 ≤ ((s[p]'hp).toNat : Int) := by rw [B0.out]; omega
    have f2 : ¬ ((s[p]'hp).toNat : Int) ≤ 223 := by rw [B0.out]; omega
    have f3 : 224 ≤ ((s[p]'hp).toNat : Int) := by rw [B0.out]; omega
    have f4 : ((s[p]'hp).toNat : Int) ≤ 239 := by rw [B0.out]; omega
    have e1 : (((s[p]'hp).toNat : Int) == 224) = true := by rw [B0.out]; simp; omega
    have e2 : (((s[p]'hp).toNat : Int) == 237) = false := by rw [B0.out]; simp; omega
    have DC := Lib.hid (dec_three s p hp 160 191 (slow_E0 _ _ _ _ _ (by omega) HL1.out HL2.out HL3.out (by rw [← HB0.out]; exact hc)))
    cases hc1 : cont s (p + 1) 160 191 with
    | false =>
      have C1 := Lib.hid hc1
      have DEC := Lib.hid (show Utf8.decode s p = (65533, 1) from by rw [DC.out, hc1]; rfl)
      have HE := Lib.hid (show DcP s p w (.returned (.tuple #[.int .i64 65533, .int .i64 1])) w from ⟨by rw [DEC.out]; rfl, 0, rfl⟩)
      clear hc1 DC DEC
      go_enter Tryd.func23, Tryd.ntmps23
      go_wp2_with fail
      refine (zcont s (p + 1) 160 191 _).mono ?_
      rintro e w' ⟨rfl, rfl⟩
      rw [C1.out]
      go_wp2_with fail
      go_ret2
      exact HE.out
    | true =>
      have C1 := Lib.hid hc1
      cases hc2 : cont s (p + 2) 128 191 with
      | false =>
        have C2 := Lib.hid hc2
        have DEC := Lib.hid (show Utf8.decode s p = (65533, 1) from by rw [DC.out, hc1, hc2]; rfl)
        have HE := Lib.hid (show DcP s p w (.returned (.tuple #[.int .i64 65533, .int .i64 1])) w from ⟨by rw [DEC.out]; rfl, 0, rfl⟩)
        clear hc1 hc2 DC DEC
        go_enter Tryd.func23, Tryd.ntmps23
        go_wp2_with fail
        refine (zcont s (p + 1) 160 191 _).mono ?_
        rintro e w' ⟨rfl, rfl⟩
        rw [C1.out]
        go_wp2_with fail
        refine (zcont s (p + 2) 128 191 _).mono ?_
        rintro e w' ⟨rfl, rfl⟩
        rw [C2.out]
        go_wp2_with fail
        go_ret2
        exact HE.out
      | true =>
        have C2 := Lib.hid hc2
        have DEC := Lib.hid (show Utf8.decode s p = (b0 % 16 * 4096 + (s.get! (p + 1)).toNat % 64 * 64 + (s.get! (p + 2)).toNat % 64, 3) from by rw [DC.out, hc1, hc2, HB0.out]; rfl)
        clear DC hc1 hc2
        have q1 : p + 1 < s.size := (cont_true C1.out).1
        have q1' : (p : Int) + 1 < (s.size : Int) := by omega
        have q1'' : (0 : Int) ≤ (p : Int) + 1 := by omega
        have g1 : ((s[p + 1]'q1).toNat : Int) ≤ 255 := by have := (s[p + 1]'q1).toNat_lt; omega
        have g1' : (0 : Int) ≤ ((s[p + 1]'q1).toNat : Int) := Int.natCast_nonneg _
        have E1 := Lib.hid (show (s[p + 1]'q1).toNat = (s.get! (p + 1)).toNat from (get_of_lt s (p + 1) q1).symm)
        have q2 : p + 2 < s.size := (cont_true C2.out).1
        have q2' : (p : Int) + 2 < (s.size : Int) := by omega
        have q2'' : (0 : Int) ≤ (p : Int) + 2 := by omega
        have g2 : ((s[p + 2]'q2).toNat : Int) ≤ 255 := by have := (s[p + 2]'q2).toNat_lt; omega
        have g2' : (0 : Int) ≤ ((s[p + 2]'q2).toNat : Int) := Int.natCast_nonneg _
        have E2 := Lib.hid (show (s[p + 2]'q2).toNat = (s.get! (p + 2)).toNat from (get_of_lt s (p + 2) q2).symm)
        go_enter Tryd.func23, Tryd.ntmps23
        go_wp2_with fail
        refine (zcont s (p + 1) 160 191 _).mono ?_
        rintro e w' ⟨rfl, rfl⟩
        rw [C1.out]
        go_wp2_with fail
        refine (zcont s (p + 2) 128 191 _).mono ?_
        rintro e w' ⟨rfl, rfl⟩
        rw [C2.out]
        go_wp2_with fail
        go_region
        have HE := Lib.hid (show ∀ k, DcP s p w (.returned (.tuple #[.int .i64 (bits .or .i64 (bits .or .i64 (((s[p]'hp).toNat : Int) % 16 * 4096) (((s[p + 1]'q1).toNat : Int) % 64 * 64)) (((s[p + 2]'q2).toNat : Int) % 64)), .int .i64 3])) (w.drewN k) from fun k => ⟨by
          rw [DEC.out, B0.out, E1.out, E2.out, show (((b0 : Nat) : Int) % 16 * 4096) = ((b0 % 16 * 4096 : Nat) : Int) by omega, show ((((s.get! (p + 1)).toNat : Nat) : Int) % 64 * 64) = (((s.get! (p + 1)).toNat % 64 * 64 : Nat) : Int) by omega, show ((((s.get! (p + 2)).toNat : Nat) : Int) % 64) = (((s.get! (p + 2)).toNat % 64 : Nat) : Int) by omega, j12 _ _ (by omega) (by omega),
            show b0 % 16 * 4096 + (s.get! (p + 1)).toNat % 64 * 64 = (b0 % 16 * 64 + (s.get! (p + 1)).toNat % 64) * 64 by omega, j6 _ _ (by omega) (by omega)]
          rfl, k, rfl⟩)
        go_wp2_with fail
        go_ret2
        exact HE.out _
  · have f0 : ¬ ((s[p]'hp).toNat : Int) < 128 := by rw [B0.out]; omega
    have f1 : 194 ≤ ((s[p]'hp).toNat : Int) := by rw [B0.out]; omega
    have f2 : ¬ ((s[p]'hp).toNat : Int) ≤ 223 := by rw [B0.out]; omega
    have f3 : 224 ≤ ((s[p]'hp).toNat : Int) := by rw [B0.out]; omega
    have f4 : ((s[p]'hp).toNat : Int) ≤ 239 := by rw [B0.out]; omega
    have e1 : (((s[p]'hp).toNat : Int) == 224) = false := by rw [B0.out]; simp; omega
    have e2 : (((s[p]'hp).toNat : Int) == 237) = false := by rw [B0.out]; simp; omega
    have DC := Lib.hid (dec_three s p hp 128 191 (slow_E1 _ _ _ _ _ (by omega) HL1.out HL2.out HL3.out (by rw [← HB0.out]; omega)))
    cases hc1 : cont s (p + 1) 128 191 with
    | false =>
      have C1 := Lib.hid hc1
      have DEC := Lib.hid (show Utf8.decode s p = (65533, 1) from by rw [DC.out, hc1]; rfl)
      have HE := Lib.hid (show DcP s p w (.returned (.tuple #[.int .i64 65533, .int .i64 1])) w from ⟨by rw [DEC.out]; rfl, 0, rfl⟩)
      clear hc1 DC DEC
      go_enter Tryd.func23, Tryd.ntmps23
      go_wp2_with fail
      refine (zcont s (p + 1) 128 191 _).mono ?_
      rintro e w' ⟨rfl, rfl⟩
      rw [C1.out]
      go_wp2_with fail
      go_ret2
      exact HE.out
    | true =>
      have C1 := Lib.hid hc1
      cases hc2 : cont s (p + 2) 128 191 with
      | false =>
        have C2 := Lib.hid hc2
        have DEC := Lib.hid (show Utf8.decode s p = (65533, 1) from by rw [DC.out, hc1, hc2]; rfl)
        have HE := Lib.hid (show DcP s p w (.returned (.tuple #[.int .i64 65533, .int .i64 1])) w from ⟨by rw [DEC.out]; rfl, 0, rfl⟩)
        clear hc1 hc2 DC DEC
        go_enter Tryd.func23, Tryd.ntmps23
        go_wp2_with fail
        refine (zcont s (p + 1) 128 191 _).mono ?_
        rintro e w' ⟨rfl, rfl⟩
        rw [C1.out]
        go_wp2_with fail
        refine (zcont s (p + 2) 128 191 _).mono ?_
        rintro e w' ⟨rfl, rfl⟩
        rw [C2.out]
        go_wp2_with fail
        go_ret2
        exact HE.out
      | true =>
        have C2 := Lib.hid hc2
        have DEC := Lib.hid (show Utf8.decode s p = (b0 % 16 * 4096 + (s.get! (p + 1)).toNat % 64 * 64 + (s.get! (p + 2)).toNat % 64, 3) from by rw [DC.out, hc1, hc2, HB0.out]; rfl)
        clear DC hc1 hc2
        have q1 : p + 1 < s.size := (cont_true C1.out).1
        have q1' : (p : Int) + 1 < (s.size : Int) := by omega
        have q1'' : (0 : Int) ≤ (p : Int) + 1 := by omega
        have g1 : ((s[p + 1]'q1).toNat : Int) ≤ 255 := by have := (s[p + 1]'q1).toNat_lt; omega
        have g1' : (0 : Int) ≤ ((s[p + 1]'q1).toNat : Int) := Int.natCast_nonneg _
        have E1 := Lib.hid (show (s[p + 1]'q1).toNat = (s.get! (p + 1)).toNat from (get_of_lt s (p + 1) q1).symm)
        have q2 : p + 2 < s.size := (cont_true C2.out).1
        have q2' : (p : Int) + 2 < (s.size : Int) := by omega
        have q2'' : (0 : Int) ≤ (p : Int) + 2 := by omega
        have g2 : ((s[p + 2]'q2).toNat : Int) ≤ 255 := by have := (s[p + 2]'q2).toNat_lt; omega
        have g2' : (0 : Int) ≤ ((s[p + 2]'q2).toNat : Int) := Int.natCast_nonneg _
        have E2 := Lib.hid (show (s[p + 2]'q2).toNat = (s.get! (p + 2)).toNat from (get_of_lt s (p + 2) q2).symm)
        go_enter Tryd.func23, Tryd.ntmps23
        go_wp2_with fail
        refine (zcont s (p + 1) 128 191 _).mono ?_
        rintro e w' ⟨rfl, rfl⟩
        rw [C1.out]
        go_wp2_with fail
        refine (zcont s (p + 2) 128 191 _).mono ?_
        rintro e w' ⟨rfl, rfl⟩
        rw [C2.out]
        go_wp2_with fail
        go_region
        have HE := Lib.hid (show ∀ k, DcP s p w (.returned (.tuple #[.int .i64 (bits .or .i64 (bits .or .i64 (((s[p]'hp).toNat : Int) % 16 * 4096) (((s[p + 1]'q1).toNat : Int) % 64 * 64)) (((s[p + 2]'q2).toNat : Int) % 64)), .int .i64 3])) (w.drewN k) from fun k => ⟨by
          rw [DEC.out, B0.out, E1.out, E2.out, show (((b0 : Nat) : Int) % 16 * 4096) = ((b0 % 16 * 4096 : Nat) : Int) by omega, show ((((s.get! (p + 1)).toNat : Nat) : Int) % 64 * 64) = (((s.get! (p + 1)).toNat % 64 * 64 : Nat) : Int) by omega, show ((((s.get! (p + 2)).toNat : Nat) : Int) % 64) = (((s.get! (p + 2)).toNat % 64 : Nat) : Int) by omega, j12 _ _ (by omega) (by omega),
            show b0 % 16 * 4096 + (s.get! (p + 1)).toNat % 64 * 64 = (b0 % 16 * 64 + (s.get! (p + 1)).toNat % 64) * 64 by omega, j6 _ _ (by omega) (by omega)]
          rfl, k, rfl⟩)
        go_wp2_with fail
        go_ret2
        exact HE.out _
  · have f0 : ¬ ((s[p]'hp).toNat : Int) < 128 := by rw [B0.out]; omega
    have f1 : 194 ≤ ((s[p]'hp).toNat : Int) := by rw [B0.out]; omega
    have f2 : ¬ ((s[p]'hp).toNat : Int) ≤ 223 := by rw [B0.out]; omega
    have f3 : 224 ≤ ((s[p]'hp).toNat : Int) := by rw [B0.out]; omega
    have f4 : ((s[p]'hp).toNat : Int) ≤ 239 := by rw [B0.out]; omega
    have e1 : (((s[p]'hp).toNat : Int) == 224) = false := by rw [B0.out]; simp; omega
    have e2 : (((s[p]'hp).toNat : Int) == 237) = true := by rw [B0.out]; simp; omega
    have DC := Lib.hid (dec_three s p hp 128 159 (slow_ED _ _ _ _ _ (by omega) HL1.out HL2.out HL3.out (by rw [← HB0.out]; exact hc)))
    cases hc1 : cont s (p + 1) 128 159 with
    | false =>
      have C1 := Lib.hid hc1
      have DEC := Lib.hid (show Utf8.decode s p = (65533, 1) from by rw [DC.out, hc1]; rfl)
      have HE := Lib.hid (show DcP s p w (.returned (.tuple #[.int .i64 65533, .int .i64 1])) w from ⟨by rw [DEC.out]; rfl, 0, rfl⟩)
      clear hc1 DC DEC
      go_enter Tryd.func23, Tryd.ntmps23
      go_wp2_with fail
      refine (zcont s (p + 1) 128 159 _).mono ?_
      rintro e w' ⟨rfl, rfl⟩
      rw [C1.out]
      go_wp2_with fail
      go_ret2
      exact HE.out
    | true =>
      have C1 := Lib.hid hc1
      cases hc2 : cont s (p + 2) 128 191 with
      | false =>
        have C2 := Lib.hid hc2
        have DEC := Lib.hid (show Utf8.decode s p = (65533, 1) from by rw [DC.out, hc1, hc2]; rfl)
        have HE := Lib.hid (show DcP s p w (.returned (.tuple #[.int .i64 65533, .int .i64 1])) w from ⟨by rw [DEC.out]; rfl, 0, rfl⟩)
        clear hc1 hc2 DC DEC
        go_enter Tryd.func23, Tryd.ntmps23
        go_wp2_with fail
        refine (zcont s (p + 1) 128 159 _).mono ?_
        rintro e w' ⟨rfl, rfl⟩
        rw [C1.out]
        go_wp2_with fail
        refine (zcont s (p + 2) 128 191 _).mono ?_
        rintro e w' ⟨rfl, rfl⟩
        rw [C2.out]
        go_wp2_with fail
        go_ret2
        exact HE.out
      | true =>
        have C2 := Lib.hid hc2
        have DEC := Lib.hid (show Utf8.decode s p = (b0 % 16 * 4096 + (s.get! (p + 1)).toNat % 64 * 64 + (s.get! (p + 2)).toNat % 64, 3) from by rw [DC.out, hc1, hc2, HB0.out]; rfl)
        clear DC hc1 hc2
        have q1 : p + 1 < s.size := (cont_true C1.out).1
        have q1' : (p : Int) + 1 < (s.size : Int) := by omega
        have q1'' : (0 : Int) ≤ (p : Int) + 1 := by omega
        have g1 : ((s[p + 1]'q1).toNat : Int) ≤ 255 := by have := (s[p + 1]'q1).toNat_lt; omega
        have g1' : (0 : Int) ≤ ((s[p + 1]'q1).toNat : Int) := Int.natCast_nonneg _
        have E1 := Lib.hid (show (s[p + 1]'q1).toNat = (s.get! (p + 1)).toNat from (get_of_lt s (p + 1) q1).symm)
        have q2 : p + 2 < s.size := (cont_true C2.out).1
        have q2' : (p : Int) + 2 < (s.size : Int) := by omega
        have q2'' : (0 : Int) ≤ (p : Int) + 2 := by omega
        have g2 : ((s[p + 2]'q2).toNat : Int) ≤ 255 := by have := (s[p + 2]'q2).toNat_lt; omega
        have g2' : (0 : Int) ≤ ((s[p + 2]'q2).toNat : Int) := Int.natCast_nonneg _
        have E2 := Lib.hid (show (s[p + 2]'q2).toNat = (s.get! (p + 2)).toNat from (get_of_lt s (p + 2) q2).symm)
        go_enter Tryd.func23, Tryd.ntmps23
        go_wp2_with fail
        refine (zcont s (p + 1) 128 159 _).mono ?_
        rintro e w' ⟨rfl, rfl⟩
        rw [C1.out]
        go_wp2_with fail
        refine (zcont s (p + 2) 128 191 _).mono ?_
        rintro e w' ⟨rfl, rfl⟩
        rw [C2.out]
        go_wp2_with fail
        go_region
        have HE := Lib.hid (show ∀ k, DcP s p w (.returned (.tuple #[.int .i64 (bits .or .i64 (bits .or .i64 (((s[p]'hp).toNat : Int) % 16 * 4096) (((s[p + 1]'q1).toNat : Int) % 64 * 64)) (((s[p + 2]'q2).toNat : Int) % 64)), .int .i64 3])) (w.drewN k) from fun k => ⟨by
          rw [DEC.out, B0.out, E1.out, E2.out, show (((b0 : Nat) : Int) % 16 * 4096) = ((b0 % 16 * 4096 : Nat) : Int) by omega, show ((((s.get! (p + 1)).toNat : Nat) : Int) % 64 * 64) = (((s.get! (p + 1)).toNat % 64 * 64 : Nat) : Int) by omega, show ((((s.get! (p + 2)).toNat : Nat) : Int) % 64) = (((s.get! (p + 2)).toNat % 64 : Nat) : Int) by omega, j12 _ _ (by omega) (by omega),
            show b0 % 16 * 4096 + (s.get! (p + 1)).toNat % 64 * 64 = (b0 % 16 * 64 + (s.get! (p + 1)).toNat % 64) * 64 by omega, j6 _ _ (by omega) (by omega)]
          rfl, k, rfl⟩)
        go_wp2_with fail
        go_ret2
        exact HE.out _
  · have f0 : ¬ ((s[p]'hp).toNat : Int) < 128 := by rw [B0.out]; omega
    have f1 : 194 ≤ ((s[p]'hp).toNat : Int) := by rw [B0.out]; omega
    have f2 : ¬ ((s[p]'hp).toNat : Int) ≤ 223 := by rw [B0.out]; omega
    have f3 : 224 ≤ ((s[p]'hp).toNat : Int) := by rw [B0.out]; omega
    have f4 : ((s[p]'hp).toNat : Int) ≤ 239 := by rw [B0.out]; omega
    have e1 : (((s[p]'hp).toNat : Int) == 224) = false := by rw [B0.out]; simp; omega
    have e2 : (((s[p]'hp).toNat : Int) == 237) = false := by rw [B0.out]; simp; omega
    have DC := Lib.hid (dec_three s p hp 128 191 (slow_E1 _ _ _ _ _ (by omega) HL1.out HL2.out HL3.out (by rw [← HB0.out]; omega)))
    cases hc1 : cont s (p + 1) 128 191 with
    | false =>
      have C1 := Lib.hid hc1
      have DEC := Lib.hid (show Utf8.decode s p = (65533, 1) from by rw [DC.out, hc1]; rfl)
      have HE := Lib.hid (show DcP s p w (.returned (.tuple #[.int .i64 65533, .int .i64 1])) w from ⟨by rw [DEC.out]; rfl, 0, rfl⟩)
      clear hc1 DC DEC
      go_enter Tryd.func23, Tryd.ntmps23
      go_wp2_with fail
      refine (zcont s (p + 1) 128 191 _).mono ?_
      rintro e w' ⟨rfl, rfl⟩
      rw [C1.out]
      go_wp2_with fail
      go_ret2
      exact HE.out
    | true =>
      have C1 := Lib.hid hc1
      cases hc2 : cont s (p + 2) 128 191 with
      | false =>
        have C2 := Lib.hid hc2
        have DEC := Lib.hid (show Utf8.decode s p = (65533, 1) from by rw [DC.out, hc1, hc2]; rfl)
        have HE := Lib.hid (show DcP s p w (.returned (.tuple #[.int .i64 65533, .int .i64 1])) w from ⟨by rw [DEC.out]; rfl, 0, rfl⟩)
        clear hc1 hc2 DC DEC
        go_enter Tryd.func23, Tryd.ntmps23
        go_wp2_with fail
        refine (zcont s (p + 1) 128 191 _).mono ?_
        rintro e w' ⟨rfl, rfl⟩
        rw [C1.out]
        go_wp2_with fail
        refine (zcont s (p + 2) 128 191 _).mono ?_
        rintro e w' ⟨rfl, rfl⟩
        rw [C2.out]
        go_wp2_with fail
        go_ret2
        exact HE.out
      | true =>
        have C2 := Lib.hid hc2
        have DEC := Lib.hid (show Utf8.decode s p = (b0 % 16 * 4096 + (s.get! (p + 1)).toNat % 64 * 64 + (s.get! (p + 2)).toNat % 64, 3) from by rw [DC.out, hc1, hc2, HB0.out]; rfl)
        clear DC hc1 hc2
        have q1 : p + 1 < s.size := (cont_true C1.out).1
        have q1' : (p : Int) + 1 < (s.size : Int) := by omega
        have q1'' : (0 : Int) ≤ (p : Int) + 1 := by omega
        have g1 : ((s[p + 1]'q1).toNat : Int) ≤ 255 := by have := (s[p + 1]'q1).toNat_lt; omega
        have g1' : (0 : Int) ≤ ((s[p + 1]'q1).toNat : Int) := Int.natCast_nonneg _
        have E1 := Lib.hid (show (s[p + 1]'q1).toNat = (s.get! (p + 1)).toNat from (get_of_lt s (p + 1) q1).symm)
        have q2 : p + 2 < s.size := (cont_true C2.out).1
        have q2' : (p : Int) + 2 < (s.size : Int) := by omega
        have q2'' : (0 : Int) ≤ (p : Int) + 2 := by omega
        have g2 : ((s[p + 2]'q2).toNat : Int) ≤ 255 := by have := (s[p + 2]'q2).toNat_lt; omega
        have g2' : (0 : Int) ≤ ((s[p + 2]'q2).toNat : Int) := Int.natCast_nonneg _
        have E2 := Lib.hid (show (s[p + 2]'q2).toNat = (s.get! (p + 2)).toNat from (get_of_lt s (p + 2) q2).symm)
        go_enter Tryd.func23, Tryd.ntmps23
        go_wp2_with fail
        refine (zcont s (p + 1) 128 191 _).mono ?_
        rintro e w' ⟨rfl, rfl⟩
        rw [C1.out]
        go_wp2_with fail
        refine (zcont s (p + 2) 128 191 _).mono ?_
        rintro e w' ⟨rfl, rfl⟩
        rw [C2.out]
        go_wp2_with fail
        go_region
        have HE := Lib.hid (show ∀ k, DcP s p w (.returned (.tuple #[.int .i64 (bits .or .i64 (bits .or .i64 (((s[p]'hp).toNat : Int) % 16 * 4096) (((s[p + 1]'q1).toNat : Int) % 64 * 64)) (((s[p + 2]'q2).toNat : Int) % 64)), .int .i64 3])) (w.drewN k) from fun k => ⟨by
          rw [DEC.out, B0.out, E1.out, E2.out, show (((b0 : Nat) : Int) % 16 * 4096) = ((b0 % 16 * 4096 : Nat) : Int) by omega, show ((((s.get! (p + 1)).toNat : Nat) : Int) % 64 * 64) = (((s.get! (p + 1)).toNat % 64 * 64 : Nat) : Int) by omega, show ((((s.get! (p + 2)).toNat : Nat) : Int) % 64) = (((s.get! (p + 2)).toNat % 64 : Nat) : Int) by omega, j12 _ _ (by omega) (by omega),
            show b0 % 16 * 4096 + (s.get! (p + 1)).toNat % 64 * 64 = (b0 % 16 * 64 + (s.get! (p + 1)).toNat % 64) * 64 by omega, j6 _ _ (by omega) (by omega)]
          rfl, k, rfl⟩)
        go_wp2_with fail
        go_ret2
        exact HE.out _
  · have f0 : ¬ ((s[p]'hp).toNat : Int) < 128 := by rw [B0.out]; omega
    have f1 : 194 ≤ ((s[p]'hp).toNat : Int) := by rw [B0.out]; omega
    have f2 : ¬ ((s[p]'hp).toNat : Int) ≤ 223 := by rw [B0.out]; omega
    have f3 : 224 ≤ ((s[p]'hp).toNat : Int) := by rw [B0.out]; omega
    have f4 : ¬ ((s[p]'hp).toNat : Int) ≤ 239 := by rw [B0.out]; omega
    have f5 : 240 ≤ ((s[p]'hp).toNat : Int) := by rw [B0.out]; omega
    have f6 : ((s[p]'hp).toNat : Int) ≤ 244 := by rw [B0.out]; omega
    have e1 : (((s[p]'hp).toNat : Int) == 240) = true := by rw [B0.out]; simp; omega
    have e2 : (((s[p]'hp).toNat : Int) == 244) = false := by rw [B0.out]; simp; omega
    have DC := Lib.hid (dec_four s p hp 144 191 (slow_F0 _ _ _ _ _ (by omega) HL1.out HL2.out HL3.out (by rw [← HB0.out]; exact hc)))
    cases hc1 : cont s (p + 1) 144 191 with
    | false =>
      have C1 := Lib.hid hc1
      have DEC := Lib.hid (show Utf8.decode s p = (65533, 1) from by rw [DC.out, hc1]; rfl)
      have HE := Lib.hid (show DcP s p w (.returned (.tuple #[.int .i64 65533, .int .i64 1])) w from ⟨by rw [DEC.out]; rfl, 0, rfl⟩)
      clear hc1 DC DEC
      go_enter Tryd.func23, Tryd.ntmps23
      go_wp2_with fail
      refine (zcont s (p + 1) 144 191 _).mono ?_
      rintro e w' ⟨rfl, rfl⟩
      rw [C1.out]
      go_wp2_with fail
      go_ret2
      exact HE.out
    | true =>
      have C1 := Lib.hid hc1
      cases hc2 : cont s (p + 2) 128 191 with
      | false =>
        have C2 := Lib.hid hc2
        have DEC := Lib.hid (show Utf8.decode s p = (65533, 1) from by rw [DC.out, hc1, hc2]; rfl)
        have HE := Lib.hid (show DcP s p w (.returned (.tuple #[.int .i64 65533, .int .i64 1])) w from ⟨by rw [DEC.out]; rfl, 0, rfl⟩)
        clear hc1 hc2 DC DEC
        go_enter Tryd.func23, Tryd.ntmps23
        go_wp2_with fail
        refine (zcont s (p + 1) 144 191 _).mono ?_
        rintro e w' ⟨rfl, rfl⟩
        rw [C1.out]
        go_wp2_with fail
        refine (zcont s (p + 2) 128 191 _).mono ?_
        rintro e w' ⟨rfl, rfl⟩
        rw [C2.out]
        go_wp2_with fail
        go_ret2
        exact HE.out
      | true =>
        have C2 := Lib.hid hc2
        cases hc3 : cont s (p + 3) 128 191 with
        | false =>
          have C3 := Lib.hid hc3
          have DEC := Lib.hid (show Utf8.decode s p = (65533, 1) from by rw [DC.out, hc1, hc2, hc3]; rfl)
          have HE := Lib.hid (show DcP s p w (.returned (.tuple #[.int .i64 65533, .int .i64 1])) w from ⟨by rw [DEC.out]; rfl, 0, rfl⟩)
          clear hc1 hc2 hc3 DC DEC
          go_enter Tryd.func23, Tryd.ntmps23
          go_wp2_with fail
          refine (zcont s (p + 1) 144 191 _).mono ?_
          rintro e w' ⟨rfl, rfl⟩
          rw [C1.out]
          go_wp2_with fail
          refine (zcont s (p + 2) 128 191 _).mono ?_
          rintro e w' ⟨rfl, rfl⟩
          rw [C2.out]
          go_wp2_with fail
          refine (zcont s (p + 3) 128 191 _).mono ?_
          rintro e w' ⟨rfl, rfl⟩
          rw [C3.out]
          go_wp2_with fail
          go_ret2
          exact HE.out
        | true =>
          have C3 := Lib.hid hc3
          have DEC := Lib.hid (show Utf8.decode s p = (b0 % 8 * 262144 + (s.get! (p + 1)).toNat % 64 * 4096 + (s.get! (p + 2)).toNat % 64 * 64 + (s.get! (p + 3)).toNat % 64, 4) from by rw [DC.out, hc1, hc2, hc3, HB0.out]; rfl)
          clear DC hc1 hc2 hc3
          have q1 : p + 1 < s.size := (cont_true C1.out).1
          have q1' : (p : Int) + 1 < (s.size : Int) := by omega
          have q1'' : (0 : Int) ≤ (p : Int) + 1 := by omega
          have g1 : ((s[p + 1]'q1).toNat : Int) ≤ 255 := by have := (s[p + 1]'q1).toNat_lt; omega
          have g1' : (0 : Int) ≤ ((s[p + 1]'q1).toNat : Int) := Int.natCast_nonneg _
          have E1 := Lib.hid (show (s[p + 1]'q1).toNat = (s.get! (p + 1)).toNat from (get_of_lt s (p + 1) q1).symm)
          have q2 : p + 2 < s.size := (cont_true C2.out).1
          have q2' : (p : Int) + 2 < (s.size : Int) := by omega
          have q2'' : (0 : Int) ≤ (p : Int) + 2 := by omega
          have g2 : ((s[p + 2]'q2).toNat : Int) ≤ 255 := by have := (s[p + 2]'q2).toNat_lt; omega
          have g2' : (0 : Int) ≤ ((s[p + 2]'q2).toNat : Int) := Int.natCast_nonneg _
          have E2 := Lib.hid (show (s[p + 2]'q2).toNat = (s.get! (p + 2)).toNat from (get_of_lt s (p + 2) q2).symm)
          have q3 : p + 3 < s.size := (cont_true C3.out).1
          have q3' : (p : Int) + 3 < (s.size : Int) := by omega
          have q3'' : (0 : Int) ≤ (p : Int) + 3 := by omega
          have g3 : ((s[p + 3]'q3).toNat : Int) ≤ 255 := by have := (s[p + 3]'q3).toNat_lt; omega
          have g3' : (0 : Int) ≤ ((s[p + 3]'q3).toNat : Int) := Int.natCast_nonneg _
          have E3 := Lib.hid (show (s[p + 3]'q3).toNat = (s.get! (p + 3)).toNat from (get_of_lt s (p + 3) q3).symm)
          go_enter Tryd.func23, Tryd.ntmps23
          go_wp2_with fail
          refine (zcont s (p + 1) 144 191 _).mono ?_
          rintro e w' ⟨rfl, rfl⟩
          rw [C1.out]
          go_wp2_with fail
          refine (zcont s (p + 2) 128 191 _).mono ?_
          rintro e w' ⟨rfl, rfl⟩
          rw [C2.out]
          go_wp2_with fail
          refine (zcont s (p + 3) 128 191 _).mono ?_
          rintro e w' ⟨rfl, rfl⟩
          rw [C3.out]
          go_wp2_with fail
          go_region
          have HE := Lib.hid (show ∀ k, DcP s p w (.returned (.tuple #[.int .i64 (bits .or .i64 (bits .or .i64 (bits .or .i64 (((s[p]'hp).toNat : Int) % 8 * 262144) (((s[p + 1]'q1).toNat : Int) % 64 * 4096)) (((s[p + 2]'q2).toNat : Int) % 64 * 64)) (((s[p + 3]'q3).toNat : Int) % 64)), .int .i64 4])) (w.drewN k) from fun k => ⟨by
            rw [DEC.out, B0.out, E1.out, E2.out, E3.out, show (((b0 : Nat) : Int) % 8 * 262144) = ((b0 % 8 * 262144 : Nat) : Int) by omega, show ((((s.get! (p + 1)).toNat : Nat) : Int) % 64 * 4096) = (((s.get! (p + 1)).toNat % 64 * 4096 : Nat) : Int) by omega, show ((((s.get! (p + 2)).toNat : Nat) : Int) % 64 * 64) = (((s.get! (p + 2)).toNat % 64 * 64 : Nat) : Int) by omega, show ((((s.get! (p + 3)).toNat : Nat) : Int) % 64) = (((s.get! (p + 3)).toNat % 64 : Nat) : Int) by omega, j18 _ _ (by omega) (by omega),
              show b0 % 8 * 262144 + (s.get! (p + 1)).toNat % 64 * 4096 = (b0 % 8 * 64 + (s.get! (p + 1)).toNat % 64) * 4096 by omega, j12 _ _ (by omega) (by omega), show (b0 % 8 * 64 + (s.get! (p + 1)).toNat % 64) * 4096 + (s.get! (p + 2)).toNat % 64 * 64 = ((b0 % 8 * 64 + (s.get! (p + 1)).toNat % 64) * 64 + (s.get! (p + 2)).toNat % 64) * 64 by omega, j6 _ _ (by omega) (by omega)]
            rfl, k, rfl⟩)
          go_wp2_with fail
          go_ret2
          exact HE.out _
  · have f0 : ¬ ((s[p]'hp).toNat : Int) < 128 := by rw [B0.out]; omega
    have f1 : 194 ≤ ((s[p]'hp).toNat : Int) := by rw [B0.out]; omega
    have f2 : ¬ ((s[p]'hp).toNat : Int) ≤ 223 := by rw [B0.out]; omega
    have f3 : 224 ≤ ((s[p]'hp).toNat : Int) := by rw [B0.out]; omega
    have f4 : ¬ ((s[p]'hp).toNat : Int) ≤ 239 := by rw [B0.out]; omega
    have f5 : 240 ≤ ((s[p]'hp).toNat : Int) := by rw [B0.out]; omega
    have f6 : ((s[p]'hp).toNat : Int) ≤ 244 := by rw [B0.out]; omega
    have e1 : (((s[p]'hp).toNat : Int) == 240) = false := by rw [B0.out]; simp; omega
    have e2 : (((s[p]'hp).toNat : Int) == 244) = false := by rw [B0.out]; simp; omega
    have DC := Lib.hid (dec_four s p hp 128 191 (slow_F1 _ _ _ _ _ (by omega) HL1.out HL2.out HL3.out (by rw [← HB0.out]; exact hc)))
    cases hc1 : cont s (p + 1) 128 191 with
    | false =>
      have C1 := Lib.hid hc1
      have DEC := Lib.hid (show Utf8.decode s p = (65533, 1) from by rw [DC.out, hc1]; rfl)
      have HE := Lib.hid (show DcP s p w (.returned (.tuple #[.int .i64 65533, .int .i64 1])) w from ⟨by rw [DEC.out]; rfl, 0, rfl⟩)
      clear hc1 DC DEC
      go_enter Tryd.func23, Tryd.ntmps23
      go_wp2_with fail
      refine (zcont s (p + 1) 128 191 _).mono ?_
      rintro e w' ⟨rfl, rfl⟩
      rw [C1.out]
      go_wp2_with fail
      go_ret2
      exact HE.out
    | true =>
      have C1 := Lib.hid hc1
      cases hc2 : cont s (p + 2) 128 191 with
      | false =>
        have C2 := Lib.hid hc2
        have DEC := Lib.hid (show Utf8.decode s p = (65533, 1) from by rw [DC.out, hc1, hc2]; rfl)
        have HE := Lib.hid (show DcP s p w (.returned (.tuple #[.int .i64 65533, .int .i64 1])) w from ⟨by rw [DEC.out]; rfl, 0, rfl⟩)
        clear hc1 hc2 DC DEC
        go_enter Tryd.func23, Tryd.ntmps23
        go_wp2_with fail
        refine (zcont s (p + 1) 128 191 _).mono ?_
        rintro e w' ⟨rfl, rfl⟩
        rw [C1.out]
        go_wp2_with fail
        refine (zcont s (p + 2) 128 191 _).mono ?_
        rintro e w' ⟨rfl, rfl⟩
        rw [C2.out]
        go_wp2_with fail
        go_ret2
        exact HE.out
      | true =>
        have C2 := Lib.hid hc2
        cases hc3 : cont s (p + 3) 128 191 with
        | false =>
          have C3 := Lib.hid hc3
          have DEC := Lib.hid (show Utf8.decode s p = (65533, 1) from by rw [DC.out, hc1, hc2, hc3]; rfl)
          have HE := Lib.hid (show DcP s p w (.returned (.tuple #[.int .i64 65533, .int .i64 1])) w from ⟨by rw [DEC.out]; rfl, 0, rfl⟩)
          clear hc1 hc2 hc3 DC DEC
          go_enter Tryd.func23, Tryd.ntmps23
          go_wp2_with fail
          refine (zcont s (p + 1) 128 191 _).mono ?_
          rintro e w' ⟨rfl, rfl⟩
          rw [C1.out]
          go_wp2_with fail
          refine (zcont s (p + 2) 128 191 _).mono ?_
          rintro e w' ⟨rfl, rfl⟩
          rw [C2.out]
          go_wp2_with fail
          refine (zcont s (p + 3) 128 191 _).mono ?_
          rintro e w' ⟨rfl, rfl⟩
          rw [C3.out]
          go_wp2_with fail
          go_ret2
          exact HE.out
        | true =>
          have C3 := Lib.hid hc3
          have DEC := Lib.hid (show Utf8.decode s p = (b0 % 8 * 262144 + (s.get! (p + 1)).toNat % 64 * 4096 + (s.get! (p + 2)).toNat % 64 * 64 + (s.get! (p + 3)).toNat % 64, 4) from by rw [DC.out, hc1, hc2, hc3, HB0.out]; rfl)
          clear DC hc1 hc2 hc3
          have q1 : p + 1 < s.size := (cont_true C1.out).1
          have q1' : (p : Int) + 1 < (s.size : Int) := by omega
          have q1'' : (0 : Int) ≤ (p : Int) + 1 := by omega
          have g1 : ((s[p + 1]'q1).toNat : Int) ≤ 255 := by have := (s[p + 1]'q1).toNat_lt; omega
          have g1' : (0 : Int) ≤ ((s[p + 1]'q1).toNat : Int) := Int.natCast_nonneg _
          have E1 := Lib.hid (show (s[p + 1]'q1).toNat = (s.get! (p + 1)).toNat from (get_of_lt s (p + 1) q1).symm)
          have q2 : p + 2 < s.size := (cont_true C2.out).1
          have q2' : (p : Int) + 2 < (s.size : Int) := by omega
          have q2'' : (0 : Int) ≤ (p : Int) + 2 := by omega
          have g2 : ((s[p + 2]'q2).toNat : Int) ≤ 255 := by have := (s[p + 2]'q2).toNat_lt; omega
          have g2' : (0 : Int) ≤ ((s[p + 2]'q2).toNat : Int) := Int.natCast_nonneg _
          have E2 := Lib.hid (show (s[p + 2]'q2).toNat = (s.get! (p + 2)).toNat from (get_of_lt s (p + 2) q2).symm)
          have q3 : p + 3 < s.size := (cont_true C3.out).1
          have q3' : (p : Int) + 3 < (s.size : Int) := by omega
          have q3'' : (0 : Int) ≤ (p : Int) + 3 := by omega
          have g3 : ((s[p + 3]'q3).toNat : Int) ≤ 255 := by have := (s[p + 3]'q3).toNat_lt; omega
          have g3' : (0 : Int) ≤ ((s[p + 3]'q3).toNat : Int) := Int.natCast_nonneg _
          have E3 := Lib.hid (show (s[p + 3]'q3).toNat = (s.get! (p + 3)).toNat from (get_of_lt s (p + 3) q3).symm)
          go_enter Tryd.func23, Tryd.ntmps23
          go_wp2_with fail
          refine (zcont s (p + 1) 128 191 _).mono ?_
          rintro e w' ⟨rfl, rfl⟩
          rw [C1.out]
          go_wp2_with fail
          refine (zcont s (p + 2) 128 191 _).mono ?_
          rintro e w' ⟨rfl, rfl⟩
          rw [C2.out]
          go_wp2_with fail
          refine (zcont s (p + 3) 128 191 _).mono ?_
          rintro e w' ⟨rfl, rfl⟩
          rw [C3.out]
          go_wp2_with fail
          go_region
          have HE := Lib.hid (show ∀ k, DcP s p w (.returned (.tuple #[.int .i64 (bits .or .i64 (bits .or .i64 (bits .or .i64 (((s[p]'hp).toNat : Int) % 8 * 262144) (((s[p + 1]'q1).toNat : Int) % 64 * 4096)) (((s[p + 2]'q2).toNat : Int) % 64 * 64)) (((s[p + 3]'q3).toNat : Int) % 64)), .int .i64 4])) (w.drewN k) from fun k => ⟨by
            rw [DEC.out, B0.out, E1.out, E2.out, E3.out, show (((b0 : Nat) : Int) % 8 * 262144) = ((b0 % 8 * 262144 : Nat) : Int) by omega, show ((((s.get! (p + 1)).toNat : Nat) : Int) % 64 * 4096) = (((s.get! (p + 1)).toNat % 64 * 4096 : Nat) : Int) by omega, show ((((s.get! (p + 2)).toNat : Nat) : Int) % 64 * 64) = (((s.get! (p + 2)).toNat % 64 * 64 : Nat) : Int) by omega, show ((((s.get! (p + 3)).toNat : Nat) : Int) % 64) = (((s.get! (p + 3)).toNat % 64 : Nat) : Int) by omega, j18 _ _ (by omega) (by omega),
              show b0 % 8 * 262144 + (s.get! (p + 1)).toNat % 64 * 4096 = (b0 % 8 * 64 + (s.get! (p + 1)).toNat % 64) * 4096 by omega, j12 _ _ (by omega) (by omega), show (b0 % 8 * 64 + (s.get! (p + 1)).toNat % 64) * 4096 + (s.get! (p + 2)).toNat % 64 * 64 = ((b0 % 8 * 64 + (s.get! (p + 1)).toNat % 64) * 64 + (s.get! (p + 2)).toNat % 64) * 64 by omega, j6 _ _ (by omega) (by omega)]
            rfl, k, rfl⟩)
          go_wp2_with fail
          go_ret2
          exact HE.out _
  · have f0 : ¬ ((s[p]'hp).toNat : Int) < 128 := by rw [B0.out]; omega
    have f1 : 194 ≤ ((s[p]'hp).toNat : Int) := by rw [B0.out]; omega
    have f2 : ¬ ((s[p]'hp).toNat : Int) ≤ 223 := by rw [B0.out]; omega
    have f3 : 224 ≤ ((s[p]'hp).toNat : Int) := by rw [B0.out]; omega
    have f4 : ¬ ((s[p]'hp).toNat : Int) ≤ 239 := by rw [B0.out]; omega
    have f5 : 240 ≤ ((s[p]'hp).toNat : Int) := by rw [B0.out]; omega
    have f6 : ((s[p]'hp).toNat : Int) ≤ 244 := by rw [B0.out]; omega
    have e1 : (((s[p]'hp).toNat : Int) == 240) = false := by rw [B0.out]; simp; omega
    have e2 : (((s[p]'hp).toNat : Int) == 244) = true := by rw [B0.out]; simp; omega
    have DC := Lib.hid (dec_four s p hp 128 143 (slow_F4 _ _ _ _ _ (by omega) HL1.out HL2.out HL3.out (by rw [← HB0.out]; exact hc)))
    cases hc1 : cont s (p + 1) 128 143 with
    | false =>
      have C1 := Lib.hid hc1
      have DEC := Lib.hid (show Utf8.decode s p = (65533, 1) from by rw [DC.out, hc1]; rfl)
      have HE := Lib.hid (show DcP s p w (.returned (.tuple #[.int .i64 65533, .int .i64 1])) w from ⟨by rw [DEC.out]; rfl, 0, rfl⟩)
      clear hc1 DC DEC
      go_enter Tryd.func23, Tryd.ntmps23
      go_wp2_with fail
      refine (zcont s (p + 1) 128 143 _).mono ?_
      rintro e w' ⟨rfl, rfl⟩
      rw [C1.out]
      go_wp2_with fail
      go_ret2
      exact HE.out
    | true =>
      have C1 := Lib.hid hc1
      cases hc2 : cont s (p + 2) 128 191 with
      | false =>
        have C2 := Lib.hid hc2
        have DEC := Lib.hid (show Utf8.decode s p = (65533, 1) from by rw [DC.out, hc1, hc2]; rfl)
        have HE := Lib.hid (show DcP s p w (.returned (.tuple #[.int .i64 65533, .int .i64 1])) w from ⟨by rw [DEC.out]; rfl, 0, rfl⟩)
        clear hc1 hc2 DC DEC
        go_enter Tryd.func23, Tryd.ntmps23
        go_wp2_with fail
        refine (zcont s (p + 1) 128 143 _).mono ?_
        rintro e w' ⟨rfl, rfl⟩
        rw [C1.out]
        go_wp2_with fail
        refine (zcont s (p + 2) 128 191 _).mono ?_
        rintro e w' ⟨rfl, rfl⟩
        rw [C2.out]
        go_wp2_with fail
        go_ret2
        exact HE.out
      | true =>
        have C2 := Lib.hid hc2
        cases hc3 : cont s (p + 3) 128 191 with
        | false =>
          have C3 := Lib.hid hc3
          have DEC := Lib.hid (show Utf8.decode s p = (65533, 1) from by rw [DC.out, hc1, hc2, hc3]; rfl)
          have HE := Lib.hid (show DcP s p w (.returned (.tuple #[.int .i64 65533, .int .i64 1])) w from ⟨by rw [DEC.out]; rfl, 0, rfl⟩)
          clear hc1 hc2 hc3 DC DEC
          go_enter Tryd.func23, Tryd.ntmps23
          go_wp2_with fail
          refine (zcont s (p + 1) 128 143 _).mono ?_
          rintro e w' ⟨rfl, rfl⟩
          rw [C1.out]
          go_wp2_with fail
          refine (zcont s (p + 2) 128 191 _).mono ?_
          rintro e w' ⟨rfl, rfl⟩
          rw [C2.out]
          go_wp2_with fail
          refine (zcont s (p + 3) 128 191 _).mono ?_
          rintro e w' ⟨rfl, rfl⟩
          rw [C3.out]
          go_wp2_with fail
          go_ret2
          exact HE.out
        | true =>
          have C3 := Lib.hid hc3
          have DEC := Lib.hid (show Utf8.decode s p = (b0 % 8 * 262144 + (s.get! (p + 1)).toNat % 64 * 4096 + (s.get! (p + 2)).toNat % 64 * 64 + (s.get! (p + 3)).toNat % 64, 4) from by rw [DC.out, hc1, hc2, hc3, HB0.out]; rfl)
          clear DC hc1 hc2 hc3
          have q1 : p + 1 < s.size := (cont_true C1.out).1
          have q1' : (p : Int) + 1 < (s.size : Int) := by omega
          have q1'' : (0 : Int) ≤ (p : Int) + 1 := by omega
          have g1 : ((s[p + 1]'q1).toNat : Int) ≤ 255 := by have := (s[p + 1]'q1).toNat_lt; omega
          have g1' : (0 : Int) ≤ ((s[p + 1]'q1).toNat : Int) := Int.natCast_nonneg _
          have E1 := Lib.hid (show (s[p + 1]'q1).toNat = (s.get! (p + 1)).toNat from (get_of_lt s (p + 1) q1).symm)
          have q2 : p + 2 < s.size := (cont_true C2.out).1
          have q2' : (p : Int) + 2 < (s.size : Int) := by omega
          have q2'' : (0 : Int) ≤ (p : Int) + 2 := by omega
          have g2 : ((s[p + 2]'q2).toNat : Int) ≤ 255 := by have := (s[p + 2]'q2).toNat_lt; omega
          have g2' : (0 : Int) ≤ ((s[p + 2]'q2).toNat : Int) := Int.natCast_nonneg _
          have E2 := Lib.hid (show (s[p + 2]'q2).toNat = (s.get! (p + 2)).toNat from (get_of_lt s (p + 2) q2).symm)
          have q3 : p + 3 < s.size := (cont_true C3.out).1
          have q3' : (p : Int) + 3 < (s.size : Int) := by omega
          have q3'' : (0 : Int) ≤ (p : Int) + 3 := by omega
          have g3 : ((s[p + 3]'q3).toNat : Int) ≤ 255 := by have := (s[p + 3]'q3).toNat_lt; omega
          have g3' : (0 : Int) ≤ ((s[p + 3]'q3).toNat : Int) := Int.natCast_nonneg _
          have E3 := Lib.hid (show (s[p + 3]'q3).toNat = (s.get! (p + 3)).toNat from (get_of_lt s (p + 3) q3).symm)
          go_enter Tryd.func23, Tryd.ntmps23
          go_wp2_with fail
          refine (zcont s (p + 1) 128 143 _).mono ?_
          rintro e w' ⟨rfl, rfl⟩
          rw [C1.out]
          go_wp2_with fail
          refine (zcont s (p + 2) 128 191 _).mono ?_
          rintro e w' ⟨rfl, rfl⟩
          rw [C2.out]
          go_wp2_with fail
          refine (zcont s (p + 3) 128 191 _).mono ?_
          rintro e w' ⟨rfl, rfl⟩
          rw [C3.out]
          go_wp2_with fail
          go_region
          have HE := Lib.hid (show ∀ k, DcP s p w (.returned (.tuple #[.int .i64 (bits .or .i64 (bits .or .i64 (bits .or .i64 (((s[p]'hp).toNat : Int) % 8 * 262144) (((s[p + 1]'q1).toNat : Int) % 64 * 4096)) (((s[p + 2]'q2).toNat : Int) % 64 * 64)) (((s[p + 3]'q3).toNat : Int) % 64)), .int .i64 4])) (w.drewN k) from fun k => ⟨by
            rw [DEC.out, B0.out, E1.out, E2.out, E3.out, show (((b0 : Nat) : Int) % 8 * 262144) = ((b0 % 8 * 262144 : Nat) : Int) by omega, show ((((s.get! (p + 1)).toNat : Nat) : Int) % 64 * 4096) = (((s.get! (p + 1)).toNat % 64 * 4096 : Nat) : Int) by omega, show ((((s.get! (p + 2)).toNat : Nat) : Int) % 64 * 64) = (((s.get! (p + 2)).toNat % 64 * 64 : Nat) : Int) by omega, show ((((s.get! (p + 3)).toNat : Nat) : Int) % 64) = (((s.get! (p + 3)).toNat % 64 : Nat) : Int) by omega, j18 _ _ (by omega) (by omega),
              show b0 % 8 * 262144 + (s.get! (p + 1)).toNat % 64 * 4096 = (b0 % 8 * 64 + (s.get! (p + 1)).toNat % 64) * 4096 by omega, j12 _ _ (by omega) (by omega), show (b0 % 8 * 64 + (s.get! (p + 1)).toNat % 64) * 4096 + (s.get! (p + 2)).toNat % 64 * 64 = ((b0 % 8 * 64 + (s.get! (p + 1)).toNat % 64) * 64 + (s.get! (p + 2)).toNat % 64) * 64 by omega, j6 _ _ (by omega) (by omega)]
            rfl, k, rfl⟩)
          go_wp2_with fail
          go_ret2
          exact HE.out _
  · have f0 : ¬ ((s[p]'hp).toNat : Int) < 128 := by rw [B0.out]; omega
    have f1 : 194 ≤ ((s[p]'hp).toNat : Int) := by rw [B0.out]; omega
    have f2 : ¬ ((s[p]'hp).toNat : Int) ≤ 223 := by rw [B0.out]; omega
    have f3 : 224 ≤ ((s[p]'hp).toNat : Int) := by rw [B0.out]; omega
    have f4 : ¬ ((s[p]'hp).toNat : Int) ≤ 239 := by rw [B0.out]; omega
    have f5 : 240 ≤ ((s[p]'hp).toNat : Int) := by rw [B0.out]; omega
    have f6 : ¬ ((s[p]'hp).toNat : Int) ≤ 244 := by rw [B0.out]; omega
    have DEC := Lib.hid (show Utf8.decode s p = (65533, 1) from dec_bad s p hp (by rw [← HB0.out]; omega))
    have HE := Lib.hid (show DcP s p w (.returned (.tuple #[.int .i64 65533, .int .i64 1])) w from ⟨by rw [DEC.out]; rfl, 0, rfl⟩)
    clear DEC
    go_enter Tryd.func23, Tryd.ntmps23
    go_wp2_with fail
    go_ret2
    exact HE.out
end Go.Proofs.YtlbkdflbhhbibaaDoor
