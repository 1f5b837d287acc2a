/- Proved here: the walk of the law FnTryToInlineCaseBodyIdempotent, for every input. -/
import Derived.Test.YtjnffbnipjkibaaTID
import Derived.WalkKit
import Derived.WalkSpells
import Derived.WalkLawsBesides
import Derived.Lib.Hide
import Derived.Lib.SliceRun
import Derived.Deep.RegionWith
import Derived.OwnWalk
import Derived.Laws.OwnMore
import Derived.Deep.AppendLies
import Derived.Deep.CutBlock
import Derived.Deep.DeepCutAuto
namespace Go.Proofs.Ytjnffbnipjkibaa.fnTryToInlineCaseBodyIdempotent
open Go.RowKit
set_option linter.unusedSimpArgs false
set_option linter.unusedVariables false

set_option maxRecDepth 100000 in
theorem early (a : Option Addr) (n cap : Nat) (b : Int) (w : World) (h1 : n ≤ maxLen) (h : 65536 < n) :
    Calls Try.prog 3 #[.slice a n cap, .int .u8 b] w fun e w' => e = .returned (.bool true) ∧ Below w.heap.size w w' := by
  unfold maxLen at h1
  by_cases c : n ≤ 1048576
  · have H := Lib.hid (bytes7 a n cap b w c)
    go_enter Try.func3, Try.ntmps3
    go_wp2_with fail
    refine H.out.mono ?_
    rintro e w' ⟨rfl, rfl⟩
    go_wp2_with fail
    go_ret
    exact ⟨rfl, Below.refl _ _⟩
  · have H := Lib.hid (bytes7n a n cap b w (by omega))
    go_enter Try.func3, Try.ntmps3
    go_wp2_with fail
    refine H.out.mono ?_
    rintro e w' ⟨rfl, rfl⟩
    go_wp2_with fail
    go_ret
    exact ⟨rfl, Below.refl _ _⟩

theorem cut_same {zs : List Int} {n k k2 : Nat} (h : IsCut zs n k) (h2 : IsCut zs k k2) : k2 = k := by
  by_cases e : k2 < k
  · have h3 := h2.2.2 e
    have h4 := h.2.1 k2 e
    omega
  · have := h2.1; omega
theorem rlow {w : World} {g n k : Nat} {zs : List Int} (h : Rows w g n zs) (hk : k ≤ n) : Rows w g k zs := fun q hq => h q (by omega)
theorem rsame {w : World} {g n : Nat} {zs : List Int} (h : Rows w g n zs) : ∀ i, i < n → SameAt w g g i := fun i hi => by
  obtain ⟨v, h1, h2, h3⟩ := h i hi
  obtain ⟨t, b, rfl, ht⟩ := h1.shape
  exact ⟨t, b, b, _, h2, h3, h2, h3, .inl ht⟩
set_option maxRecDepth 100000 in
set_option maxHeartbeats 4000000 in
theorem walk (a0 : Option Addr) (len0 cap0 : Nat) (z0 : List Int) (a1 : Int) (w : World) (w0 : IsRow .u8 w a0 len0 cap0 z0) (w1 : (Lit.int .u8 a1).wf = true) :
    Calls Try.prog 3 #[.slice a0 len0 cap0, .int .u8 a1] w fun e w' => e = .returned (.bool true) ∧ Below w.heap.size w w' := by
  obtain ⟨l0, l0', hwf⟩ := len_ints w0
  by_cases c : 65536 < len0
  · exact early a0 len0 cap0 a1 w l0 c
  have b0 : len0 ≤ 65536 := by omega
  obtain ⟨y0, y1⟩ := wf_u8 w1
  obtain ⟨D, rfl⟩ : ∃ D : Nat, a1 = D := ⟨a1.toNat, by omega⟩
  have HY := Lib.hid (bytes7 a0 len0 cap0 (D : Int) w (by omega))
  have HWB := Lib.hid (wrapBody a0 len0 cap0 D z0 w (rowB w0) (rowZ w0) b0 (by omega))
  clear w0 w1 l0 l0' hwf c
  go_enter Try.func3, Try.ntmps3
  go_wp2_with fail
  refine HY.out.mono ?_
  rintro e w' ⟨rfl, rfl⟩
  clear HY
  go_wp2_with fail
  refine HWB.out.mono ?_
  rintro e w2 ⟨ao, l, cc, xs, rfl, hwr, hown, hrw, hb2⟩
  obtain ⟨g, hg⟩ : ∃ g, g = w.heap.size := ⟨_, rfl⟩
  rw [← hg] at hwr hown hrw
  have hr := rows_of hown hrw
  have HR := Lib.hid hr
  have HB2 := Lib.hid hb2
  have HT := Lib.hid (try8 g len0 len0 z0 33554433 67108865 b0 (Nat.le_refl _) D 16777216 16777217 ao l cc w2 (by omega) hr hwr)
  clear hwr hown hrw hr hb2 HWB hg
  go_wp2_with fail
  refine HT.out.mono ?_
  rintro e w3 ⟨hb3, k, hcut, hres⟩
  have HB3 := Lib.hid (HB2.out.trans (hb3.mono HB2.out.size))
  have HR3 := Lib.hid (HR.out.below hb3)
  have HCUT := Lib.hid hcut
  have hkn : k ≤ len0 := hcut.1
  clear hb3 HB2 HR hcut HT
  rcases hres with ⟨hk, _, rfl⟩ | ⟨_, hnc, rfl⟩ | ⟨_, hc, G, nb, rfl, c0, c1, c2, c3⟩
  · go_wp2_with fail
    go_ret
    exact ⟨rfl, HB3.out⟩
  · have HT2 := Lib.hid (try8 g k len0 z0 33554433 67108865 (by omega) hkn 0 16777216 16777217 (some ⟨g, 0, none⟩) k len0 w3 (by omega) (rlow HR3.out hkn) rfl)
    have HN := Lib.hid hnc
    clear hnc
    go_wp2_with fail
    refine HT2.out.mono ?_
    rintro e w4 ⟨hb4, k2, hcut2, hres2⟩
    obtain rfl := cut_same HCUT.out hcut2
    have HB4 := Lib.hid (HB3.out.trans (hb4.mono HB3.out.size))
    have HR4 := Lib.hid (rlow (HR3.out.below hb4) hkn)
    clear hb4 hcut2 HT2
    rcases hres2 with ⟨hk, _, rfl⟩ | ⟨_, _, rfl⟩ | ⟨_, hc, _⟩
    · exact absurd hk (by omega)
    · have HS := Lib.hid (same g g k2 len0 len0 w4 (rsame HR4.out) (by omega))
      go_wp2_with fail
      refine HS.out.mono ?_
      rintro e w5 ⟨rfl, hb5⟩
      have HB5 := Lib.hid (HB4.out.trans (hb5.mono HB4.out.size))
      clear hb5
      go_wp2_with fail
      go_ret
      exact ⟨rfl, HB5.out⟩
    · exact absurd hc HN.out
  · have HT2 := Lib.hid (try8 g k len0 z0 (oL 33554433 16777216 D) (cL 67108865 16777217 D) (by omega) hkn 1 16777216 16777217 (some ⟨G, 0, none⟩) 1 1 w3 (by omega) (rlow HR3.out hkn) ⟨G, nb, some ⟨g, 0, none⟩, k, len0, rfl, c0, c1, c2, c3, rfl⟩)
    have HC := Lib.hid hc
    obtain ⟨lo, hlo⟩ : ∃ lo, lo = oL 33554433 16777216 D := ⟨_, rfl⟩
    obtain ⟨co, hco⟩ : ∃ co, co = cL 67108865 16777217 D := ⟨_, rfl⟩
    rw [← hlo] at c1 HT2
    rw [← hco] at c3 HT2
    have C0 := Lib.hid c0
    have C1 := Lib.hid c1
    have C2 := Lib.hid c2
    have C3 := Lib.hid c3
    clear hlo hco hc c0 c1 c2 c3
    go_wp2_with fail
    refine HT2.out.mono ?_
    rintro e w4 ⟨hb4, k2, hcut2, hres2⟩
    obtain rfl := cut_same HCUT.out hcut2
    have HB4 := Lib.hid (HB3.out.trans (hb4.mono HB3.out.size))
    have HR4 := Lib.hid (rlow (HR3.out.below hb4) hkn)
    have HB34 := Lib.hid hb4
    clear hb4 hcut2 HT2
    rcases hres2 with ⟨hk, _, rfl⟩ | ⟨_, hn, rfl⟩ | ⟨_, hc, G2, nb2, rfl, d0, d1, d2, d3⟩
    · exact absurd hk (by omega)
    · exact absurd HC.out hn
    · have hlo1 : oL lo 16777216 1 = lo := rfl
      have hco1 : cL co 16777217 1 = co := rfl
      rw [hlo1] at d1
      rw [hco1] at d3
      have HS := Lib.hid (same G G2 1 1 1 w4 (fun i hi => by
        obtain rfl : i = 0 := by omega
        exact ⟨55, nb, nb2, lo, kept HB34.out C0.out, kept HB34.out C1.out, d0, d1, .inr ⟨rfl, g, k2, len0, co, by omega, kept HB34.out C2.out, kept HB34.out C3.out, d2, d3, HR4.out.locs⟩⟩) (by omega))
      clear d0 d1 d2 d3 hlo1 hco1 hc
      go_wp2_with fail
      refine HS.out.mono ?_
      rintro e w5 ⟨rfl, hb5⟩
      have HB5 := Lib.hid (HB4.out.trans (hb5.mono HB4.out.size))
      clear hb5
      go_wp2_with fail
      go_ret
      exact ⟨rfl, HB5.out⟩
end Go.Proofs.Ytjnffbnipjkibaa.fnTryToInlineCaseBodyIdempotent
