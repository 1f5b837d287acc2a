/- Proved here: the walk of the law FnExtractNumericValuesPairSpec, for every input. -/
import Derived.Test.YtaipmmfkideobaaPair
import Derived.WalkKit
import Derived.WalkSpells
import Derived.WalkLawsBesides
import Derived.Lib.Hide
namespace Go.Proofs.Ytaipmmfkideobaa.fnExtractNumericValuesPairSpec
open Go.RowKit
set_option linter.unusedSimpArgs false
set_option linter.unusedVariables false

set_option maxRecDepth 100000 in
theorem bytes_yes (a : Option Addr) (len cap : Nat) (k : Int) (f : Nat) (b : Option Addr) (len2 cap2 : Nat) (l : Int) (g : Nat) (w : World) (h : len + len2 ≤ 1048576) :
    Calls Try.prog 21 #[.slice a len cap, .int .u8 k, .float .f64 f, .slice b len2 cap2, .int .u8 l, .float .f64 g] w fun e w' => e = .returned (.bool true) ∧ w = w' := by
  go_enter Try.func21, Try.ntmps21
  go_wp2_with fail
  go_ret
  exact ⟨rfl, rfl⟩
set_option maxRecDepth 100000 in
theorem bytes_no (a : Option Addr) (len cap : Nat) (k : Int) (f : Nat) (b : Option Addr) (len2 cap2 : Nat) (l : Int) (g : Nat) (w : World) (h : ¬ len + len2 ≤ 1048576) :
    Calls Try.prog 21 #[.slice a len cap, .int .u8 k, .float .f64 f, .slice b len2 cap2, .int .u8 l, .float .f64 g] w fun e w' => e = .returned (.bool false) ∧ w = w' := by
  by_cases c1 : 1048576 < len
  · go_enter Try.func21, Try.ntmps21
    go_wp2_with fail
    go_ret
    exact ⟨rfl, rfl⟩
  by_cases c2 : 1048576 < len2
  · go_enter Try.func21, Try.ntmps21
    go_wp2_with fail
    go_ret
    exact ⟨rfl, rfl⟩
  · go_enter Try.func21, Try.ntmps21
    go_wp2_with fail
    go_ret
    exact ⟨rfl, rfl⟩
theorem rowU8 {w : World} {a : Option Addr} {len cap : Nat} {zs : List Int} (h : IsRow .u8 w a len cap zs) : ∀ z ∈ zs, 0 ≤ z ∧ z ≤ 255 := by
  rcases h with ⟨_, _, _, rfl⟩ | ⟨x, _, _, _, _, _, hw⟩
  · simp
  · exact fun z hz => wf_u8 (hw z hz)
theorem rowBelow {k : IntKind} {w w' : World} {a : Option Addr} {len cap : Nat} {zs : List Int} (h : IsRow k w a len cap zs) (hb : Below w.heap.size w w') : IsRow k w' a len cap zs := by
  rcases h with h | ⟨x, h1, h2, h3, h4, h5, h6⟩
  · exact Or.inl h
  · exact Or.inr ⟨x, h1, h2, h3, h4, fun i hi => by rw [hb.cell (World.block_lt_of_cell? _ _ (h5 i hi))]; exact h5 i hi, h6⟩
set_option maxRecDepth 100000 in
set_option maxHeartbeats 4000000 in
theorem main (a : Option Addr) (len cap : Nat) (zs : List Int) (n : Nat) (k : Int) (f : Nat) (b : Option Addr) (len2 cap2 : Nat) (us : List Int) (m : Nat) (l : Int) (g : Nat) (w : World) (h : IsRow .u8 w a len cap zs) (h' : IsRow .u8 w b len2 cap2 us) (hlen : len ≤ 65536) (hlen2 : len2 ≤ 65536) (h0 : 0 ≤ k) (h1 : k ≤ 255) (hn : n < 6) (hk : k % 6 = n) (h0' : 0 ≤ l) (h1' : l ≤ 255) (hm : m < 6) (hl : l % 6 = m) (hf : f < 18446744073709551616) (hg : g < 18446744073709551616) :
    Calls Try.prog 5 #[.slice a len cap, .int .u8 k, .float .f64 f, .slice b len2 cap2, .int .u8 l, .float .f64 g] w fun e w' => e = .returned (.bool true) ∧ Below w.heap.size w w' := by
  have H := Lib.hid h
  have H' := Lib.hid h'
  have HK := Lib.hid hk
  have HL := Lib.hid hl
  have HZ := Lib.hid (rowU8 h)
  have HU := Lib.hid (rowU8 h')
  have HF := Lib.hid hf
  have HG := Lib.hid hg
  clear h h' hk hl hf hg
  go_enter Try.func5, Try.ntmps5
  go_wp2_with (first | (go_at_call 21; refine (bytes_yes _ _ _ _ _ _ _ _ _ _ _ (by omega)).mono ?_; rintro e w' ⟨rfl, rfl⟩))
  refine (cloneB_any a len cap zs w H.out (by omega)).mono ?_
  rintro e w1 ⟨a', cap', rfl, _, hrow, hb1⟩
  have HR := Lib.hid hrow
  clear hrow
  go_wp2_with fail
  refine (cloneB_any b len2 cap2 us w1 (rowBelow H'.out hb1) (by omega)).mono ?_
  rintro e w2 ⟨b', cap2', rfl, _, hrow2, hb2⟩
  have HR2 := Lib.hid hrow2
  clear hrow2
  go_wp2_with fail
  refine (chain_any a' len cap' zs n k f none 0 0 w2 (HR.out.below hb2) hlen h0 h1 hn HK.out HZ.out).mono ?_
  rintro e w3 ⟨d, rfl, hch, hb3⟩
  have HCH := Lib.hid hch
  have hE := isE hch
  clear hch
  rcases hE with rfl | ⟨t1, v1, rfl⟩
  all_goals
    go_wp2_with fail
    refine (chain_any b' len2 cap2' us m l g none 0 0 _ ((HR2.out.below hb3).below ((Below.refl _ _).alloc (Nat.le_refl _) _)) hlen2 h0' h1' hm HL.out HU.out).mono ?_
    rintro e w4 ⟨d', rfl, hch', hb4⟩
    have HCH' := Lib.hid hch'
    have B34 : Below w3.heap.size w3 w4 := ((Below.refl _ _).alloc (Nat.le_refl _) _).trans (hb4.mono (by simp))
    have g0 := hb4.cell (p := ⟨w3.heap.size, 0, none⟩) (by simp)
    have g1 := hb4.cell (p := ⟨w3.heap.size, 1, none⟩) (by simp)
    rw [World.cell?_alloc_new] at g0 g1
    have z4 : w3.heap.size < w4.heap.size := by have := hb4.size; simp at this; omega
    have hE' := isE hch'
    have B4 : Below w.heap.size w w4 := bel2 (bel2 (bel2 hb1 hb2) hb3) B34
    have HRa := Lib.hid (((HR.out.below hb2).below hb3).below B34)
    have HRb := Lib.hid ((HR2.out.below hb3).below B34)
    have HD := Lib.hid (HCH.out.below B34)
    clear hch' hb4 B34
    simp at g0 g1
    rcases hE' with rfl | ⟨t2, v2, rfl⟩
    all_goals
      go_wp2_with fail
      have HALb := Lib.hid (fun o => (show Below w4.heap.size w4 (w4.alloc o) from (Below.refl _ _).alloc (Nat.le_refl _) _))
      have B5 := Lib.hid (fun o => (B4.alloc B4.size o : Below w.heap.size w (w4.alloc o)))
      clear g0 g1 z4 B4 hb1 hb2 hb3
      by_cases tL : tr (zs.take len) = true
      · by_cases n0 : n = 0
        · by_cases tR : tr (us.take len2) = true
          · by_cases m0 : m = 0
            · have VA := Lib.hid (fun W d1 d2 (hW : Below w4.heap.size w4 W) (c1 : Chain w4 n f (.slice none 0 0) (zs.take len) d1) (c2 : Chain w4 m g (.slice none 0 0) (us.take len2) d2) => zvals_tt (zs.take len) n f d1 (us.take len2) m g d2 W (c1.below hW) (c2.below hW) (by simp [numOf, tL, n0]) (by simp [numOf, tR, m0]))
              have TL := Lib.hid (show tr (zs.take len) = true by simpa using tL)
              have TR := Lib.hid (show tr (us.take len2) = true by simpa using tR)
              have k6 : (k % 6 == 0) = true := by have := HK.out; simp; omega
              have l6 : (l % 6 == 0) = true := by have := HL.out; simp; omega
              clear tL tR n0 m0
              refine (VA.out _ _ _ (HALb.out _) HD.out HCH'.out).mono ?_
              rintro e w6 ⟨rfl, hb6⟩
              have B6 : Below w.heap.size w w6 := (B5.out _).trans (hb6.mono (B5.out _).size)
              have B46 := Lib.hid ((HALb.out _).trans (hb6.mono (HALb.out _).size))
              clear hb6 VA
              go_wp2_with fail
              refine (tr_any _ len _ zs _ (HRa.out.below B46.out) (by omega) HZ.out).mono ?_
              rintro e w' ⟨rfl, rfl⟩
              rw [TL.out]
              go_wp2_with fail
              refine (tr_any _ len2 _ us _ (HRb.out.below B46.out) (by omega) HU.out).mono ?_
              rintro e w' ⟨rfl, rfl⟩
              rw [TR.out]
              go_wp2_with (first | (go_at_call_of 23 (Value.float FloatKind.f64 f); refine (same_any f HF.out _).mono ?_; rintro e w' ⟨rfl, rfl⟩) | (go_at_call_of 23 (Value.float FloatKind.f64 g); refine (same_any g HG.out _).mono ?_; rintro e w' ⟨rfl, rfl⟩) | (go_at_call 24; refine (pos_any _).mono ?_; rintro e w' ⟨rfl, rfl⟩))
              go_ret
              exact ⟨rfl, B6⟩
            · have VA := Lib.hid (fun W d1 d2 (hW : Below w4.heap.size w4 W) (c1 : Chain w4 n f (.slice none 0 0) (zs.take len) d1) (c2 : Chain w4 m g (.slice none 0 0) (us.take len2) d2) => zvals_tf (zs.take len) n f d1 (us.take len2) m g d2 W (c1.below hW) (c2.below hW) (by simp [numOf, tL, n0]) (by simp [numOf, tR, m0]))
              have TL := Lib.hid (show tr (zs.take len) = true by simpa using tL)
              have TR := Lib.hid (show tr (us.take len2) = true by simpa using tR)
              have k6 : (k % 6 == 0) = true := by have := HK.out; simp; omega
              have l6 : (l % 6 == 0) = false := by have := HL.out; simp; omega
              clear tL tR n0 m0
              refine (VA.out _ _ _ (HALb.out _) HD.out HCH'.out).mono ?_
              rintro e w6 ⟨rfl, hb6⟩
              have B6 : Below w.heap.size w w6 := (B5.out _).trans (hb6.mono (B5.out _).size)
              have B46 := Lib.hid ((HALb.out _).trans (hb6.mono (HALb.out _).size))
              clear hb6 VA
              go_wp2_with fail
              refine (tr_any _ len _ zs _ (HRa.out.below B46.out) (by omega) HZ.out).mono ?_
              rintro e w' ⟨rfl, rfl⟩
              rw [TL.out]
              go_wp2_with fail
              refine (tr_any _ len2 _ us _ (HRb.out.below B46.out) (by omega) HU.out).mono ?_
              rintro e w' ⟨rfl, rfl⟩
              rw [TR.out]
              go_wp2_with (first | (go_at_call_of 23 (Value.float FloatKind.f64 f); refine (same_any f HF.out _).mono ?_; rintro e w' ⟨rfl, rfl⟩) | (go_at_call_of 23 (Value.float FloatKind.f64 g); refine (same_any g HG.out _).mono ?_; rintro e w' ⟨rfl, rfl⟩) | (go_at_call 24; refine (pos_any _).mono ?_; rintro e w' ⟨rfl, rfl⟩))
              go_ret
              exact ⟨rfl, B6⟩
          · have VA := Lib.hid (fun W d1 d2 (hW : Below w4.heap.size w4 W) (c1 : Chain w4 n f (.slice none 0 0) (zs.take len) d1) (c2 : Chain w4 m g (.slice none 0 0) (us.take len2) d2) => zvals_tf (zs.take len) n f d1 (us.take len2) m g d2 W (c1.below hW) (c2.below hW) (by simp [numOf, tL, n0]) (by simp [numOf, tR]))
            have TL := Lib.hid (show tr (zs.take len) = true by simpa using tL)
            have TR := Lib.hid (show tr (us.take len2) = false by simpa using tR)
            have k6 : (k % 6 == 0) = true := by have := HK.out; simp; omega
            clear tL tR n0
            refine (VA.out _ _ _ (HALb.out _) HD.out HCH'.out).mono ?_
            rintro e w6 ⟨rfl, hb6⟩
            have B6 : Below w.heap.size w w6 := (B5.out _).trans (hb6.mono (B5.out _).size)
            have B46 := Lib.hid ((HALb.out _).trans (hb6.mono (HALb.out _).size))
            clear hb6 VA
            go_wp2_with fail
            refine (tr_any _ len _ zs _ (HRa.out.below B46.out) (by omega) HZ.out).mono ?_
            rintro e w' ⟨rfl, rfl⟩
            rw [TL.out]
            go_wp2_with fail
            refine (tr_any _ len2 _ us _ (HRb.out.below B46.out) (by omega) HU.out).mono ?_
            rintro e w' ⟨rfl, rfl⟩
            rw [TR.out]
            go_wp2_with (first | (go_at_call_of 23 (Value.float FloatKind.f64 f); refine (same_any f HF.out _).mono ?_; rintro e w' ⟨rfl, rfl⟩) | (go_at_call_of 23 (Value.float FloatKind.f64 g); refine (same_any g HG.out _).mono ?_; rintro e w' ⟨rfl, rfl⟩) | (go_at_call 24; refine (pos_any _).mono ?_; rintro e w' ⟨rfl, rfl⟩))
            go_ret
            exact ⟨rfl, B6⟩
        · by_cases tR : tr (us.take len2) = true
          · by_cases m0 : m = 0
            · have VA := Lib.hid (fun W d1 d2 (hW : Below w4.heap.size w4 W) (c1 : Chain w4 n f (.slice none 0 0) (zs.take len) d1) (c2 : Chain w4 m g (.slice none 0 0) (us.take len2) d2) => zvals_f (zs.take len) n f d1 (us.take len2) m g d2 W (c1.below hW) (c2.below hW) (by simp [numOf, tL, n0]))
              have TL := Lib.hid (show tr (zs.take len) = true by simpa using tL)
              have TR := Lib.hid (show tr (us.take len2) = true by simpa using tR)
              have k6 : (k % 6 == 0) = false := by have := HK.out; simp; omega
              have l6 : (l % 6 == 0) = true := by have := HL.out; simp; omega
              clear tL tR n0 m0
              refine (VA.out _ _ _ (HALb.out _) HD.out HCH'.out).mono ?_
              rintro e w6 ⟨rfl, hb6⟩
              have B6 : Below w.heap.size w w6 := (B5.out _).trans (hb6.mono (B5.out _).size)
              have B46 := Lib.hid ((HALb.out _).trans (hb6.mono (HALb.out _).size))
              clear hb6 VA
              go_wp2_with fail
              refine (tr_any _ len _ zs _ (HRa.out.below B46.out) (by omega) HZ.out).mono ?_
              rintro e w' ⟨rfl, rfl⟩
              rw [TL.out]
              go_wp2_with fail
              refine (tr_any _ len2 _ us _ (HRb.out.below B46.out) (by omega) HU.out).mono ?_
              rintro e w' ⟨rfl, rfl⟩
              rw [TR.out]
              go_wp2_with (first | (go_at_call_of 23 (Value.float FloatKind.f64 f); refine (same_any f HF.out _).mono ?_; rintro e w' ⟨rfl, rfl⟩) | (go_at_call_of 23 (Value.float FloatKind.f64 g); refine (same_any g HG.out _).mono ?_; rintro e w' ⟨rfl, rfl⟩) | (go_at_call 24; refine (pos_any _).mono ?_; rintro e w' ⟨rfl, rfl⟩))
              go_ret
              exact ⟨rfl, B6⟩
            · have VA := Lib.hid (fun W d1 d2 (hW : Below w4.heap.size w4 W) (c1 : Chain w4 n f (.slice none 0 0) (zs.take len) d1) (c2 : Chain w4 m g (.slice none 0 0) (us.take len2) d2) => zvals_f (zs.take len) n f d1 (us.take len2) m g d2 W (c1.below hW) (c2.below hW) (by simp [numOf, tL, n0]))
              have TL := Lib.hid (show tr (zs.take len) = true by simpa using tL)
              have TR := Lib.hid (show tr (us.take len2) = true by simpa using tR)
              have k6 : (k % 6 == 0) = false := by have := HK.out; simp; omega
              have l6 : (l % 6 == 0) = false := by have := HL.out; simp; omega
              clear tL tR n0 m0
              refine (VA.out _ _ _ (HALb.out _) HD.out HCH'.out).mono ?_
              rintro e w6 ⟨rfl, hb6⟩
              have B6 : Below w.heap.size w w6 := (B5.out _).trans (hb6.mono (B5.out _).size)
              have B46 := Lib.hid ((HALb.out _).trans (hb6.mono (HALb.out _).size))
              clear hb6 VA
              go_wp2_with fail
              refine (tr_any _ len _ zs _ (HRa.out.below B46.out) (by omega) HZ.out).mono ?_
              rintro e w' ⟨rfl, rfl⟩
              rw [TL.out]
              go_wp2_with fail
              refine (tr_any _ len2 _ us _ (HRb.out.below B46.out) (by omega) HU.out).mono ?_
              rintro e w' ⟨rfl, rfl⟩
              rw [TR.out]
              go_wp2_with (first | (go_at_call_of 23 (Value.float FloatKind.f64 f); refine (same_any f HF.out _).mono ?_; rintro e w' ⟨rfl, rfl⟩) | (go_at_call_of 23 (Value.float FloatKind.f64 g); refine (same_any g HG.out _).mono ?_; rintro e w' ⟨rfl, rfl⟩) | (go_at_call 24; refine (pos_any _).mono ?_; rintro e w' ⟨rfl, rfl⟩))
              go_ret
              exact ⟨rfl, B6⟩
          · have VA := Lib.hid (fun W d1 d2 (hW : Below w4.heap.size w4 W) (c1 : Chain w4 n f (.slice none 0 0) (zs.take len) d1) (c2 : Chain w4 m g (.slice none 0 0) (us.take len2) d2) => zvals_f (zs.take len) n f d1 (us.take len2) m g d2 W (c1.below hW) (c2.below hW) (by simp [numOf, tL, n0]))
            have TL := Lib.hid (show tr (zs.take len) = true by simpa using tL)
            have TR := Lib.hid (show tr (us.take len2) = false by simpa using tR)
            have k6 : (k % 6 == 0) = false := by have := HK.out; simp; omega
            clear tL tR n0
            refine (VA.out _ _ _ (HALb.out _) HD.out HCH'.out).mono ?_
            rintro e w6 ⟨rfl, hb6⟩
            have B6 : Below w.heap.size w w6 := (B5.out _).trans (hb6.mono (B5.out _).size)
            have B46 := Lib.hid ((HALb.out _).trans (hb6.mono (HALb.out _).size))
            clear hb6 VA
            go_wp2_with fail
            refine (tr_any _ len _ zs _ (HRa.out.below B46.out) (by omega) HZ.out).mono ?_
            rintro e w' ⟨rfl, rfl⟩
            rw [TL.out]
            go_wp2_with fail
            refine (tr_any _ len2 _ us _ (HRb.out.below B46.out) (by omega) HU.out).mono ?_
            rintro e w' ⟨rfl, rfl⟩
            rw [TR.out]
            go_wp2_with (first | (go_at_call_of 23 (Value.float FloatKind.f64 f); refine (same_any f HF.out _).mono ?_; rintro e w' ⟨rfl, rfl⟩) | (go_at_call_of 23 (Value.float FloatKind.f64 g); refine (same_any g HG.out _).mono ?_; rintro e w' ⟨rfl, rfl⟩) | (go_at_call 24; refine (pos_any _).mono ?_; rintro e w' ⟨rfl, rfl⟩))
            go_ret
            exact ⟨rfl, B6⟩
      · by_cases tR : tr (us.take len2) = true
        · by_cases m0 : m = 0
          · have VA := Lib.hid (fun W d1 d2 (hW : Below w4.heap.size w4 W) (c1 : Chain w4 n f (.slice none 0 0) (zs.take len) d1) (c2 : Chain w4 m g (.slice none 0 0) (us.take len2) d2) => zvals_f (zs.take len) n f d1 (us.take len2) m g d2 W (c1.below hW) (c2.below hW) (by simp [numOf, tL]))
            have TL := Lib.hid (show tr (zs.take len) = false by simpa using tL)
            have TR := Lib.hid (show tr (us.take len2) = true by simpa using tR)
            have l6 : (l % 6 == 0) = true := by have := HL.out; simp; omega
            clear tL tR m0
            refine (VA.out _ _ _ (HALb.out _) HD.out HCH'.out).mono ?_
            rintro e w6 ⟨rfl, hb6⟩
            have B6 : Below w.heap.size w w6 := (B5.out _).trans (hb6.mono (B5.out _).size)
            have B46 := Lib.hid ((HALb.out _).trans (hb6.mono (HALb.out _).size))
            clear hb6 VA
            go_wp2_with fail
            refine (tr_any _ len _ zs _ (HRa.out.below B46.out) (by omega) HZ.out).mono ?_
            rintro e w' ⟨rfl, rfl⟩
            rw [TL.out]
            go_wp2_with fail
            refine (tr_any _ len2 _ us _ (HRb.out.below B46.out) (by omega) HU.out).mono ?_
            rintro e w' ⟨rfl, rfl⟩
            rw [TR.out]
            go_wp2_with (first | (go_at_call_of 23 (Value.float FloatKind.f64 f); refine (same_any f HF.out _).mono ?_; rintro e w' ⟨rfl, rfl⟩) | (go_at_call_of 23 (Value.float FloatKind.f64 g); refine (same_any g HG.out _).mono ?_; rintro e w' ⟨rfl, rfl⟩) | (go_at_call 24; refine (pos_any _).mono ?_; rintro e w' ⟨rfl, rfl⟩))
            go_ret
            exact ⟨rfl, B6⟩
          · have VA := Lib.hid (fun W d1 d2 (hW : Below w4.heap.size w4 W) (c1 : Chain w4 n f (.slice none 0 0) (zs.take len) d1) (c2 : Chain w4 m g (.slice none 0 0) (us.take len2) d2) => zvals_f (zs.take len) n f d1 (us.take len2) m g d2 W (c1.below hW) (c2.below hW) (by simp [numOf, tL]))
            have TL := Lib.hid (show tr (zs.take len) = false by simpa using tL)
            have TR := Lib.hid (show tr (us.take len2) = true by simpa using tR)
            have l6 : (l % 6 == 0) = false := by have := HL.out; simp; omega
            clear tL tR m0
            refine (VA.out _ _ _ (HALb.out _) HD.out HCH'.out).mono ?_
            rintro e w6 ⟨rfl, hb6⟩
            have B6 : Below w.heap.size w w6 := (B5.out _).trans (hb6.mono (B5.out _).size)
            have B46 := Lib.hid ((HALb.out _).trans (hb6.mono (HALb.out _).size))
            clear hb6 VA
            go_wp2_with fail
            refine (tr_any _ len _ zs _ (HRa.out.below B46.out) (by omega) HZ.out).mono ?_
            rintro e w' ⟨rfl, rfl⟩
            rw [TL.out]
            go_wp2_with fail
            refine (tr_any _ len2 _ us _ (HRb.out.below B46.out) (by omega) HU.out).mono ?_
            rintro e w' ⟨rfl, rfl⟩
            rw [TR.out]
            go_wp2_with (first | (go_at_call_of 23 (Value.float FloatKind.f64 f); refine (same_any f HF.out _).mono ?_; rintro e w' ⟨rfl, rfl⟩) | (go_at_call_of 23 (Value.float FloatKind.f64 g); refine (same_any g HG.out _).mono ?_; rintro e w' ⟨rfl, rfl⟩) | (go_at_call 24; refine (pos_any _).mono ?_; rintro e w' ⟨rfl, rfl⟩))
            go_ret
            exact ⟨rfl, B6⟩
        · have VA := Lib.hid (fun W d1 d2 (hW : Below w4.heap.size w4 W) (c1 : Chain w4 n f (.slice none 0 0) (zs.take len) d1) (c2 : Chain w4 m g (.slice none 0 0) (us.take len2) d2) => zvals_f (zs.take len) n f d1 (us.take len2) m g d2 W (c1.below hW) (c2.below hW) (by simp [numOf, tL]))
          have TL := Lib.hid (show tr (zs.take len) = false by simpa using tL)
          have TR := Lib.hid (show tr (us.take len2) = false by simpa using tR)
          clear tL tR
          refine (VA.out _ _ _ (HALb.out _) HD.out HCH'.out).mono ?_
          rintro e w6 ⟨rfl, hb6⟩
          have B6 : Below w.heap.size w w6 := (B5.out _).trans (hb6.mono (B5.out _).size)
          have B46 := Lib.hid ((HALb.out _).trans (hb6.mono (HALb.out _).size))
          clear hb6 VA
          go_wp2_with fail
          refine (tr_any _ len _ zs _ (HRa.out.below B46.out) (by omega) HZ.out).mono ?_
          rintro e w' ⟨rfl, rfl⟩
          rw [TL.out]
          go_wp2_with fail
          refine (tr_any _ len2 _ us _ (HRb.out.below B46.out) (by omega) HU.out).mono ?_
          rintro e w' ⟨rfl, rfl⟩
          rw [TR.out]
          go_wp2_with (first | (go_at_call_of 23 (Value.float FloatKind.f64 f); refine (same_any f HF.out _).mono ?_; rintro e w' ⟨rfl, rfl⟩) | (go_at_call_of 23 (Value.float FloatKind.f64 g); refine (same_any g HG.out _).mono ?_; rintro e w' ⟨rfl, rfl⟩) | (go_at_call 24; refine (pos_any _).mono ?_; rintro e w' ⟨rfl, rfl⟩))
          go_ret
          exact ⟨rfl, B6⟩

theorem wf_f64 {a : Nat} (h : (Lit.float .f64 a).wf = true) : a < 18446744073709551616 := by
  have h2 : decide (a < 2 ^ 64) = true := h
  simpa using h2
set_option maxRecDepth 100000 in
set_option maxHeartbeats 1000000 in
theorem walk (a0 : Option Addr) (len0 cap0 : Nat) (z0 : List Int) (a1 : Int) (a2 : Nat) (a3 : Option Addr) (len3 cap3 : Nat) (z3 : List Int) (a4 : Int) (a5 : Nat) (w : World) (w0 : IsRow .u8 w a0 len0 cap0 z0) (w1 : (Lit.int .u8 a1).wf = true) (w2 : (Lit.float .f64 a2).wf = true) (w3 : IsRow .u8 w a3 len3 cap3 z3) (w4 : (Lit.int .u8 a4).wf = true) (w5 : (Lit.float .f64 a5).wf = true) :
    Calls Try.prog 5 #[.slice a0 len0 cap0, .int .u8 a1, .float .f64 a2, .slice a3 len3 cap3, .int .u8 a4, .float .f64 a5] w fun e w' => e = .returned (.bool true) ∧ Below w.heap.size w w' := by
  obtain ⟨h0, h1⟩ := wf_u8 w1
  obtain ⟨h0', h1'⟩ := wf_u8 w4
  have F := Lib.hid (wf_f64 w2)
  have G := Lib.hid (wf_f64 w5)
  clear w1 w2 w4 w5
  obtain ⟨n, hn⟩ := Int.eq_ofNat_of_zero_le (show 0 ≤ a1 % 6 by omega)
  obtain ⟨m, hm⟩ := Int.eq_ofNat_of_zero_le (show 0 ≤ a4 % 6 by omega)
  have W0 := Lib.hid w0
  have W3 := Lib.hid w3
  have HN := Lib.hid hn
  have HM := Lib.hid hm
  clear w0 w3 hn hm
  by_cases c1 : len0 + len3 ≤ 1048576
  · by_cases c2 : 65536 < len0
    · go_enter Try.func5, Try.ntmps5
      go_wp2_with (first | (go_at_call 21; refine (bytes_yes _ _ _ _ _ _ _ _ _ _ _ c1).mono ?_; rintro e w' ⟨rfl, rfl⟩))
      go_ret
      exact ⟨rfl, Below.refl _ _⟩
    by_cases c3 : 65536 < len3
    · go_enter Try.func5, Try.ntmps5
      go_wp2_with (first | (go_at_call 21; refine (bytes_yes _ _ _ _ _ _ _ _ _ _ _ c1).mono ?_; rintro e w' ⟨rfl, rfl⟩))
      go_ret
      exact ⟨rfl, Below.refl _ _⟩
    exact main a0 len0 cap0 z0 n a1 a2 a3 len3 cap3 z3 m a4 a5 w W0.out W3.out (by omega) (by omega) h0 h1 (by have := HN.out; omega) HN.out h0' h1' (by have := HM.out; omega) HM.out F.out G.out
  · go_enter Try.func5, Try.ntmps5
    go_wp2_with (first | (go_at_call 21; refine (bytes_no _ _ _ _ _ _ _ _ _ _ _ c1).mono ?_; rintro e w' ⟨rfl, rfl⟩))
    go_ret
    exact ⟨rfl, Below.refl _ _⟩
end Go.Proofs.Ytaipmmfkideobaa.fnExtractNumericValuesPairSpec
