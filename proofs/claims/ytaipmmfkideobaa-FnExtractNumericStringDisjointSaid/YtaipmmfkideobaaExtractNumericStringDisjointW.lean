/- Proved here: the walk of the law FnExtractNumericStringDisjoint, for every input. -/
import Derived.Test.YtaipmmfkideobaaTrans
import Derived.WalkKit
import Derived.WalkSpells
import Derived.WalkLawsBesides
import Derived.Lib.Hide
namespace Go.Proofs.Ytaipmmfkideobaa.fnExtractNumericStringDisjoint
open Go.RowKit
set_option linter.unusedSimpArgs false
set_option linter.unusedVariables false

set_option maxRecDepth 100000 in
theorem bytes_yes (a : Option Addr) (len cap : Nat) (k : Int) (f : Nat) (b : Option Addr) (len2 cap2 : Nat) (w : World) (h : len + len2 ≤ 1048576) :
    Calls Try.prog 14 #[.slice a len cap, .int .u8 k, .float .f64 f, .slice b len2 cap2] w fun e w' => e = .returned (.bool true) ∧ w = w' := by
  go_enter Try.func14, Try.ntmps14
  go_wp2_with fail
  go_ret
  exact ⟨rfl, rfl⟩
set_option maxRecDepth 100000 in
theorem bytes_no (a : Option Addr) (len cap : Nat) (k : Int) (f : Nat) (b : Option Addr) (len2 cap2 : Nat) (w : World) (h : ¬ len + len2 ≤ 1048576) :
    Calls Try.prog 14 #[.slice a len cap, .int .u8 k, .float .f64 f, .slice b len2 cap2] w fun e w' => e = .returned (.bool false) ∧ w = w' := by
  by_cases c1 : 1048576 < len
  · go_enter Try.func14, Try.ntmps14
    go_wp2_with fail
    go_ret
    exact ⟨rfl, rfl⟩
  by_cases c2 : 1048576 < len2
  · go_enter Try.func14, Try.ntmps14
    go_wp2_with fail
    go_ret
    exact ⟨rfl, rfl⟩
  · go_enter Try.func14, Try.ntmps14
    go_wp2_with fail
    go_ret
    exact ⟨rfl, rfl⟩
theorem rowU8 {w : World} {a : Option Addr} {len cap : Nat} {zs : List Int} (h : IsRow .u8 w a len cap zs) : ∀ z ∈ zs, 0 ≤ z ∧ z ≤ 255 := by
  rcases h with ⟨_, _, _, rfl⟩ | ⟨x, _, _, _, _, _, hw⟩
  · simp
  · exact fun z hz => wf_u8 (hw z hz)
theorem rowBelow {k : IntKind} {w w' : World} {a : Option Addr} {len cap : Nat} {zs : List Int} (h : IsRow k w a len cap zs) (hb : Below w.heap.size w w') : IsRow k w' a len cap zs := by
  rcases h with h | ⟨x, h1, h2, h3, h4, h5, h6⟩
  · exact Or.inl h
  · exact Or.inr ⟨x, h1, h2, h3, h4, fun i hi => by rw [hb.cell (World.block_lt_of_cell? _ _ (h5 i hi))]; exact h5 i hi, h6⟩
set_option maxRecDepth 100000 in
set_option maxHeartbeats 2000000 in
theorem main (a : Option Addr) (len cap : Nat) (zs : List Int) (n : Nat) (k : Int) (f : Nat) (b : Option Addr) (len2 cap2 : Nat) (us : List Int) (w : World) (h : IsRow .u8 w a len cap zs) (g : IsRow .u16 w b len2 cap2 us) (hlen : len ≤ 65536) (hlen2 : len2 ≤ 65536) (hs : len + 2 * len2 ≤ 1048576) (h0 : 0 ≤ k) (h1 : k ≤ 255) (hn : n < 6) (hk : k % 6 = n) :
    Calls Try.prog 4 #[.slice a len cap, .int .u8 k, .float .f64 f, .slice b len2 cap2] w fun e w' => e = .returned (.bool true) ∧ Below w.heap.size w w' := by
  have H := Lib.hid h
  have G := Lib.hid g
  have HK := Lib.hid hk
  have HZ := Lib.hid (rowU8 h)
  clear h g hk
  go_enter Try.func4, Try.ntmps4
  go_wp2_with (first | (go_at_call 14; refine (bytes_yes _ _ _ _ _ _ _ _ _ (by omega)).mono ?_; rintro e w' ⟨rfl, rfl⟩))
  refine (cloneB_any a len cap zs w H.out (by omega)).mono ?_
  rintro e w1 ⟨a', cap', rfl, _, hrow, hb1⟩
  have HR := Lib.hid hrow
  clear hrow
  go_wp2_with fail
  refine (cloneC_any b len2 cap2 us w1 (rowBelow G.out hb1) (by omega)).mono ?_
  rintro e w2 ⟨b', cap2', rfl, _, _, hb2⟩
  go_wp2_with fail
  refine (chain_any a' len cap' zs n k f b' len2 cap2' w2 (HR.out.below hb2) hlen h0 h1 hn HK.out HZ.out).mono ?_
  rintro e w3 ⟨d, rfl, hch, hb3⟩
  have B3 : Below w.heap.size w w3 := bel2 (bel2 hb1 hb2) hb3
  have HR3 := Lib.hid ((HR.out.below hb2).below hb3)
  have HCH := Lib.hid hch
  have TR : ∀ W, Below w3.heap.size w3 W → Calls Try.prog 20 #[.slice a' len cap'] W fun e w' => e = .returned (.bool (tr (zs.take len))) ∧ W = w' := fun W hW => tr_any a' len cap' zs W (HR3.out.below hW) (by omega) HZ.out
  have HTR := Lib.hid TR
  have hE := isE hch
  clear hch TR hb1 hb2 hb3
  have hal : ∀ o, Below w3.heap.size w3 (w3.alloc o) := fun o => (Below.refl _ _).alloc (Nat.le_refl _) _
  have HAL := Lib.hid hal
  clear hal
  have hk6 : (k % 6 ≤ 1) = (n ≤ 1) := by rw [HK.out]; simp; omega
  have HK6 := Lib.hid hk6
  clear hk6
  cases htr : tr (zs.take len)
  · have n0 := Lib.hid (show numOf (zs.take len) n = false by simp [numOf, htr])
    have s0 := Lib.hid (show strOf (zs.take len) n = false by simp [strOf, htr])
    rcases hE with rfl | ⟨t1, v1, rfl⟩
    all_goals
      have T := Lib.hid htr
      clear htr
      go_wp2_with (first | (go_at_call 18; refine (num_false _ n f b' len2 cap2' _ _ (HCH.out.below (HAL.out _)) n0.out).mono ?_; rintro e w' ⟨rfl, rfl⟩) | (go_at_call 19; refine (str_false _ n f b' len2 cap2' _ _ (HCH.out.below (HAL.out _)) s0.out).mono ?_; rintro e w' ⟨rfl, rfl⟩) | (go_at_call 20; refine (HTR.out _ (HAL.out _)).mono ?_; rintro e w' ⟨rfl, rfl⟩; rw [T.out]))
      go_ret
      exact ⟨rfl, B3.alloc B3.size _⟩
  by_cases c0 : n = 0
  · have hnn := c0
    have n0 := Lib.hid (show numOf (zs.take len) n = true by simp [numOf, htr, *])
    have s0 := Lib.hid (show strOf (zs.take len) n = false by simp [strOf, htr, *])
    have k6 : k % 6 ≤ 1 := by have := HK.out; omega
    clear hnn c0
    rcases hE with rfl | ⟨t1, v1, rfl⟩
    all_goals
      have T := Lib.hid htr
      clear htr
      go_wp2_with (first | (go_at_call 18; refine (num_true _ n f b' len2 cap2' _ _ (HCH.out.below (HAL.out _)) n0.out).mono ?_; rintro e w' ⟨rfl, rfl⟩) | (go_at_call 19; refine (str_false _ n f b' len2 cap2' _ _ (HCH.out.below (HAL.out _)) s0.out).mono ?_; rintro e w' ⟨rfl, rfl⟩) | (go_at_call 20; refine (HTR.out _ (HAL.out _)).mono ?_; rintro e w' ⟨rfl, rfl⟩; rw [T.out]))
      go_ret
      exact ⟨by simp; try omega, B3.alloc B3.size _⟩
  by_cases c1 : n = 1
  · have hnn := c1
    have n0 := Lib.hid (show numOf (zs.take len) n = false by simp [numOf, htr, *])
    have s0 := Lib.hid (show strOf (zs.take len) n = true by simp [strOf, htr, *])
    have k6 : k % 6 ≤ 1 := by have := HK.out; omega
    clear hnn c0 c1
    rcases hE with rfl | ⟨t1, v1, rfl⟩
    all_goals
      have T := Lib.hid htr
      clear htr
      go_wp2_with (first | (go_at_call 18; refine (num_false _ n f b' len2 cap2' _ _ (HCH.out.below (HAL.out _)) n0.out).mono ?_; rintro e w' ⟨rfl, rfl⟩) | (go_at_call 19; refine (str_true _ n f b' len2 cap2' _ _ (HCH.out.below (HAL.out _)) s0.out).mono ?_; rintro e w' ⟨rfl, rfl⟩) | (go_at_call 20; refine (HTR.out _ (HAL.out _)).mono ?_; rintro e w' ⟨rfl, rfl⟩; rw [T.out]))
      go_ret
      exact ⟨by simp; try omega, B3.alloc B3.size _⟩
  · have hnn := c1
    have n0 := Lib.hid (show numOf (zs.take len) n = false by simp [numOf, htr, *])
    have s0 := Lib.hid (show strOf (zs.take len) n = false by simp [strOf, htr, *])
    have k6 : ¬ k % 6 ≤ 1 := by have := HK.out; omega
    clear hnn c0 c1
    rcases hE with rfl | ⟨t1, v1, rfl⟩
    all_goals
      have T := Lib.hid htr
      clear htr
      go_wp2_with (first | (go_at_call 18; refine (num_false _ n f b' len2 cap2' _ _ (HCH.out.below (HAL.out _)) n0.out).mono ?_; rintro e w' ⟨rfl, rfl⟩) | (go_at_call 19; refine (str_false _ n f b' len2 cap2' _ _ (HCH.out.below (HAL.out _)) s0.out).mono ?_; rintro e w' ⟨rfl, rfl⟩) | (go_at_call 20; refine (HTR.out _ (HAL.out _)).mono ?_; rintro e w' ⟨rfl, rfl⟩; rw [T.out]))
      go_ret
      exact ⟨by simp; try omega, B3.alloc B3.size _⟩

set_option maxRecDepth 100000 in
set_option maxHeartbeats 1000000 in
theorem walk (a0 : Option Addr) (len0 cap0 : Nat) (z0 : List Int) (a1 : Int) (a2 : Nat) (a3 : Option Addr) (len3 cap3 : Nat) (z3 : List Int) (w : World) (w0 : IsRow .u8 w a0 len0 cap0 z0) (w1 : (Lit.int .u8 a1).wf = true) (w2 : (Lit.float .f64 a2).wf = true) (w3 : IsRow .u16 w a3 len3 cap3 z3) :
    Calls Try.prog 4 #[.slice a0 len0 cap0, .int .u8 a1, .float .f64 a2, .slice a3 len3 cap3] w fun e w' => e = .returned (.bool true) ∧ Below w.heap.size w w' := by
  obtain ⟨h0, h1⟩ := wf_u8 w1
  clear w1 w2
  obtain ⟨n, hn⟩ := Int.eq_ofNat_of_zero_le (show 0 ≤ a1 % 6 by omega)
  have W0 := Lib.hid w0
  have W3 := Lib.hid w3
  have HN := Lib.hid hn
  clear w0 w3 hn
  by_cases c1 : len0 + len3 ≤ 1048576
  · by_cases c2 : 65536 < len0
    · go_enter Try.func4, Try.ntmps4
      go_wp2_with (first | (go_at_call 14; refine (bytes_yes _ _ _ _ _ _ _ _ _ c1).mono ?_; rintro e w' ⟨rfl, rfl⟩))
      go_ret
      exact ⟨rfl, Below.refl _ _⟩
    by_cases c3 : 65536 < len3
    · go_enter Try.func4, Try.ntmps4
      go_wp2_with (first | (go_at_call 14; refine (bytes_yes _ _ _ _ _ _ _ _ _ c1).mono ?_; rintro e w' ⟨rfl, rfl⟩))
      go_ret
      exact ⟨rfl, Below.refl _ _⟩
    exact main a0 len0 cap0 z0 n a1 a2 a3 len3 cap3 z3 w W0.out W3.out (by omega) (by omega) (by omega) h0 h1 (by have := HN.out; omega) HN.out
  · go_enter Try.func4, Try.ntmps4
    go_wp2_with (first | (go_at_call 14; refine (bytes_no _ _ _ _ _ _ _ _ _ c1).mono ?_; rintro e w' ⟨rfl, rfl⟩))
    go_ret
    exact ⟨rfl, Below.refl _ _⟩
end Go.Proofs.Ytaipmmfkideobaa.fnExtractNumericStringDisjoint
