/- Proved here: the walk of the law FnJsxExprsEqualTable, for every input. -/
import Derived.Test.YtcbbnkccfbgahaaJXE
import Derived.WalkKit
import Derived.WalkSpells
import Derived.WalkLawsBesides
import Derived.Lib.Hide
import Derived.Lib.SliceRun
import Derived.Deep.RegionWith
namespace Go.Proofs.Ytcbbnkccfbgahaa.fnJsxExprsEqualTable
open Go.RowKit
set_option linter.unusedSimpArgs false
set_option linter.unusedVariables false

theorem IsStrs.below {w w1 : World} {a : Option Addr} {len cap : Nat} {zs : List ByteArray} (h : IsStrs w a len cap zs) (hb : Below w.heap.size w w1) : IsStrs w1 a len cap zs := by
  rcases h with h | ⟨x, e1, e2, e3, e4, hc, hw⟩
  · exact .inl h
  · refine .inr ⟨x, e1, e2, e3, e4, fun i hi => ?_, hw⟩
    have := hc i hi
    obtain ⟨b, off, rfl⟩ := spot_none (hc 0 (by omega))
    rw [add_none] at this ⊢
    exact kept hb this
theorem rowS {w : World} {a : Option Addr} {len cap : Nat} {zs : List ByteArray} (h : IsStrs w a len cap zs) : RowV w a len (fun i => .string (sAt zs i)) := rowv_strs h

set_option maxRecDepth 100000 in
theorem early (a0 : Option Addr) (len0 cap0 : Nat) (z0 : List ByteArray) (a1 : Int) (a2 : Option Addr) (len2 cap2 : Nat) (z2 : List ByteArray) (a3 : Int) (w : World) (w0 : IsStrs w a0 len0 cap0 z0) (w1 : (Lit.int .u8 a1).wf = true) (w2 : IsStrs w a2 len2 cap2 z2) (w3 : (Lit.int .u8 a3).wf = true) (h : 65536 < len0 ∨ 65536 < len2) :
    Calls Try.prog 3 #[.slice a0 len0 cap0, .int .u8 a1, .slice a2 len2 cap2, .int .u8 a3] w fun e w' => e = .returned (.bool true) ∧ Below w.heap.size w w' := by
  obtain ⟨l0, s0⟩ := len_strs w0
  obtain ⟨l2, s2⟩ := len_strs w2
  have R0 := Lib.hid (rowS w0)
  have R2 := Lib.hid (rowS w2)
  have S0 := Lib.hid s0
  have S2 := Lib.hid s2
  clear w0 w2 s0 s2 w1 w3
  unfold maxLen at l0 l2
  go_enter Try.func3, Try.ntmps3
  go_wp2_with fail
  refine (bytes9 _ _ _ _ _ _ z0 z2 _ _ _ R0.out R2.out (fun i => S0.out i) (fun i => S2.out i) l0 l2).mono ?_
  rintro e w' ⟨b, rfl, rfl⟩
  cases b
  · go_wp2_with fail
    go_ret
    exact ⟨rfl, Below.refl _ _⟩
  · go_wp2_with fail
    refine (pfail_big _ _ _ _ _ _ _ l0 l2 h).mono ?_
    rintro e w' ⟨rfl, rfl⟩
    go_wp2_with fail
    go_ret
    exact ⟨rfl, Below.refl _ _⟩

theorem same_answer {g g' : Bool} {P : Prop} {k1 k2 : Nat} {x y : Int} (h : g = true ↔ P ∧ k1 = k2) (h' : g' = true ↔ P) (e1 : k1 = (x % 5).toNat) (e2 : k2 = (y % 5).toNat) (hx : 0 ≤ x) (hy : 0 ≤ y) : (g == (g' && (x % 5 == y % 5))) = true := by
  have e : (k1 = k2) ↔ (x % 5 == y % 5) = true := by
    rw [beq_iff_eq]; omega
  rw [beq_iff_eq]
  refine Bool.eq_iff_iff.2 ?_
  rw [Bool.and_eq_true, h, h', e]

set_option maxRecDepth 100000 in
set_option maxHeartbeats 4000000 in
theorem walk (a0 : Option Addr) (len0 cap0 : Nat) (z0 : List ByteArray) (a1 : Int) (a2 : Option Addr) (len2 cap2 : Nat) (z2 : List ByteArray) (a3 : Int) (w : World) (w0 : IsStrs w a0 len0 cap0 z0) (w1 : (Lit.int .u8 a1).wf = true) (w2 : IsStrs w a2 len2 cap2 z2) (w3 : (Lit.int .u8 a3).wf = true) :
    Calls Try.prog 3 #[.slice a0 len0 cap0, .int .u8 a1, .slice a2 len2 cap2, .int .u8 a3] w fun e w' => e = .returned (.bool true) ∧ Below w.heap.size w w' := by
  by_cases c : 65536 < len0 ∨ 65536 < len2
  · exact early a0 len0 cap0 z0 a1 a2 len2 cap2 z2 a3 w w0 w1 w2 w3 c
  have b0 : len0 ≤ 65536 := by omega
  have b2 : len2 ≤ 65536 := by omega
  obtain ⟨x0, x1⟩ := wf_u8 w1
  obtain ⟨y0, y1⟩ := wf_u8 w3
  have S0 := Lib.hid (len_strs w0).2
  have S2 := Lib.hid (len_strs w2).2
  have R0 := Lib.hid (rowS w0)
  have R2 := Lib.hid (rowS w2)
  have I0 := Lib.hid w0
  have I2 := Lib.hid w2
  clear w0 w1 w2 w3 c
  go_enter Try.func3, Try.ntmps3
  go_wp2_with fail
  refine (bytes9 _ _ _ _ _ _ z0 z2 _ _ _ R0.out R2.out (fun i => S0.out i) (fun i => S2.out i) (by omega) (by omega)).mono ?_
  rintro e w' ⟨b, rfl, rfl⟩
  cases b
  · go_wp2_with fail
    go_ret
    exact ⟨rfl, Below.refl _ _⟩
  go_wp2_with fail
  refine (pfail_some _ _ _ _ _ _ z0 z2 _ R0.out R2.out (fun i => S0.out i) (fun i => S2.out i) b0 b2).mono ?_
  rintro e w' ⟨b, rfl, rfl⟩
  cases b
  case true =>
    go_wp2_with fail
    go_ret
    exact ⟨rfl, Below.refl _ _⟩
  clear R0 R2 S0 S2
  go_wp2_with fail
  refine (cpS_any a0 len0 cap0 z0 w I0.out (by omega)).mono ?_
  rintro e w1 ⟨p0, q0, rfl, r0, hb1⟩
  have R0 := Lib.hid (show RowV w1 p0 len0 (fun i => .string (sAt z0 i)) from r0)
  have J2 := Lib.hid (IsStrs.below I2.out hb1)
  have B1 := Lib.hid hb1
  clear r0 I0 I2 hb1
  go_wp2_with fail
  refine (cpS_any a2 len2 cap2 z2 w1 J2.out (by omega)).mono ?_
  rintro e w2 ⟨p2, q2, rfl, r2, hb2⟩
  have R2 := Lib.hid (show RowV w2 p2 len2 (fun i => .string (sAt z2 i)) from r2)
  have R0b := Lib.hid (R0.out.below hb2)
  have B2 := Lib.hid (bel2 B1.out hb2)
  clear r2 J2 hb2 R0 B1
  go_wp2_with fail
  refine (define_any p0 len0 q0 a1 w2 x0 x1).mono ?_
  rintro e w3 ⟨v1, rfl, hv1, hb3⟩
  have B3 := Lib.hid (bel2 B2.out hb3)
  have R0c := Lib.hid (R0b.out.below hb3)
  have R2c := Lib.hid (R2.out.below hb3)
  have V1 := Lib.hid hv1
  have Z1 := Lib.hid hv1.zero
  clear hv1 hb3 B2 R0b R2
  obtain ⟨k1, hk1⟩ : ∃ k, k = (a1 % 5).toNat := ⟨_, rfl⟩
  rw [← hk1] at V1 Z1
  have K1 := Lib.hid hk1
  clear hk1
  have Z1' : v1 = .nilIface ∨ ∃ t p, v1 = .iface t p := by
    rcases Z1.out with ⟨_, h⟩ | ⟨_, h⟩
    · exact .inl h
    · exact .inr h
  clear Z1
  rcases Z1' with rfl | ⟨t1, u1, rfl⟩
  · go_wp2_with fail
    have hA := ba w3 (.cells #[.nilIface, .slice p0 len0 q0, .int .u32 0] 32)
    refine (define_any p2 len2 q2 a3 (w3.alloc (.cells #[.nilIface, .slice p0 len0 q0, .int .u32 0] 32)) y0 y1).mono ?_
    rintro e w4 ⟨v2, rfl, hv2, hb4⟩
    have B4 := Lib.hid (bel2 (bel2 B3.out hA) hb4)
    have R0d := Lib.hid ((R0c.out.below hA).below hb4)
    have R2d := Lib.hid ((R2c.out.below hA).below hb4)
    have V1d := Lib.hid ((V1.out.below hA).below hb4)
    have V2 := Lib.hid hv2
    have Z2 := Lib.hid hv2.zero
    have c0 := kept hb4 (show (w3.alloc (.cells #[.nilIface, .slice p0 len0 q0, .int .u32 0] 32)).cell? ⟨w3.heap.size, 0, none⟩ = some (.nilIface) by go_simp)
    have c1 := kept hb4 (show (w3.alloc (.cells #[.nilIface, .slice p0 len0 q0, .int .u32 0] 32)).cell? ⟨w3.heap.size, 1, none⟩ = some (.slice p0 len0 q0) by go_simp)
    have c2 := kept hb4 (show (w3.alloc (.cells #[.nilIface, .slice p0 len0 q0, .int .u32 0] 32)).cell? ⟨w3.heap.size, 2, none⟩ = some (.int .u32 0) by go_simp)
    have g4 : w3.heap.size < w4.heap.size := World.block_lt_of_cell? _ _ c0
    clear hv2 hb4 hA B3 R0c R2c V1
    obtain ⟨k2, hk2⟩ : ∃ k, k = (a3 % 5).toNat := ⟨_, rfl⟩
    rw [← hk2] at V2 Z2
    have K2 := Lib.hid hk2
    clear hk2
    have Z2' : v2 = .nilIface ∨ ∃ t p, v2 = .iface t p := by
      rcases Z2.out with ⟨_, h⟩ | ⟨_, h⟩
      · exact .inl h
      · exact .inr h
    clear Z2
    obtain ⟨g3, hg3⟩ : ∃ g, g = w3.heap.size := ⟨_, rfl⟩
    rw [← hg3] at c0 c1 c2 g4 ⊢
    clear hg3
    rcases Z2' with rfl | ⟨t2, u2, rfl⟩
    · go_wp2_with fail
      have hA := ba w4 (.cells #[.nilIface, .slice p2 len2 q2, .int .u32 0] 32)
      refine (zjeq_any k1 k2 len0 len2 q0 q2 p0 p2 (.nilIface) (.nilIface) 0 0 z0 z2 _ (V1d.out.below hA) (V2.out.below hA) (R0d.out.below hA) (R2d.out.below hA) (by omega) (by omega)).mono ?_
      rintro e w5 ⟨g, rfl, hg, hb5⟩
      have HG := Lib.hid hg
      have R0e := Lib.hid ((R0d.out.below hA).below hb5)
      have R2e := Lib.hid ((R2d.out.below hA).below hb5)
      have B5 := Lib.hid (bel2 (bel2 B4.out hA) hb5)
      clear hg hb5 hA c0 c1 c2 g4 B4 R0d R2d V1d V2
      go_wp2_with fail
      refine (parts_eq _ _ _ _ _ _ z0 z2 _ R0e.out R2e.out (by omega) (by omega)).mono ?_
      rintro e w6 ⟨g', rfl, hg', hb6⟩
      have HG' := Lib.hid hg'
      have B6 := Lib.hid (bel2 B5.out hb6)
      clear hg' hb6 B5 R0e R2e
      have EQ := Lib.hid (same_answer HG.out HG'.out K1.out K2.out x0 y0)
      clear HG HG' K1 K2
      cases g'
      · go_wp2_with fail
        go_ret
        exact ⟨ret_bool (by have := EQ.out; simpa using this), B6.out⟩
      · go_wp2_with fail
        go_ret
        exact ⟨ret_bool (by have := EQ.out; simpa using this), B6.out⟩
    · go_wp2_with fail
      have hA := ba w4 (.cells #[.iface t2 u2, .slice p2 len2 q2, .int .u32 0] 32)
      refine (zjeq_any k1 k2 len0 len2 q0 q2 p0 p2 (.nilIface) (.iface t2 u2) 0 0 z0 z2 _ (V1d.out.below hA) (V2.out.below hA) (R0d.out.below hA) (R2d.out.below hA) (by omega) (by omega)).mono ?_
      rintro e w5 ⟨g, rfl, hg, hb5⟩
      have HG := Lib.hid hg
      have R0e := Lib.hid ((R0d.out.below hA).below hb5)
      have R2e := Lib.hid ((R2d.out.below hA).below hb5)
      have B5 := Lib.hid (bel2 (bel2 B4.out hA) hb5)
      clear hg hb5 hA c0 c1 c2 g4 B4 R0d R2d V1d V2
      go_wp2_with fail
      refine (parts_eq _ _ _ _ _ _ z0 z2 _ R0e.out R2e.out (by omega) (by omega)).mono ?_
      rintro e w6 ⟨g', rfl, hg', hb6⟩
      have HG' := Lib.hid hg'
      have B6 := Lib.hid (bel2 B5.out hb6)
      clear hg' hb6 B5 R0e R2e
      have EQ := Lib.hid (same_answer HG.out HG'.out K1.out K2.out x0 y0)
      clear HG HG' K1 K2
      cases g'
      · go_wp2_with fail
        go_ret
        exact ⟨ret_bool (by have := EQ.out; simpa using this), B6.out⟩
      · go_wp2_with fail
        go_ret
        exact ⟨ret_bool (by have := EQ.out; simpa using this), B6.out⟩
  · go_wp2_with fail
    have hA := ba w3 (.cells #[.iface t1 u1, .slice p0 len0 q0, .int .u32 0] 32)
    refine (define_any p2 len2 q2 a3 (w3.alloc (.cells #[.iface t1 u1, .slice p0 len0 q0, .int .u32 0] 32)) y0 y1).mono ?_
    rintro e w4 ⟨v2, rfl, hv2, hb4⟩
    have B4 := Lib.hid (bel2 (bel2 B3.out hA) hb4)
    have R0d := Lib.hid ((R0c.out.below hA).below hb4)
    have R2d := Lib.hid ((R2c.out.below hA).below hb4)
    have V1d := Lib.hid ((V1.out.below hA).below hb4)
    have V2 := Lib.hid hv2
    have Z2 := Lib.hid hv2.zero
    have c0 := kept hb4 (show (w3.alloc (.cells #[.iface t1 u1, .slice p0 len0 q0, .int .u32 0] 32)).cell? ⟨w3.heap.size, 0, none⟩ = some (.iface t1 u1) by go_simp)
    have c1 := kept hb4 (show (w3.alloc (.cells #[.iface t1 u1, .slice p0 len0 q0, .int .u32 0] 32)).cell? ⟨w3.heap.size, 1, none⟩ = some (.slice p0 len0 q0) by go_simp)
    have c2 := kept hb4 (show (w3.alloc (.cells #[.iface t1 u1, .slice p0 len0 q0, .int .u32 0] 32)).cell? ⟨w3.heap.size, 2, none⟩ = some (.int .u32 0) by go_simp)
    have g4 : w3.heap.size < w4.heap.size := World.block_lt_of_cell? _ _ c0
    clear hv2 hb4 hA B3 R0c R2c V1
    obtain ⟨k2, hk2⟩ : ∃ k, k = (a3 % 5).toNat := ⟨_, rfl⟩
    rw [← hk2] at V2 Z2
    have K2 := Lib.hid hk2
    clear hk2
    have Z2' : v2 = .nilIface ∨ ∃ t p, v2 = .iface t p := by
      rcases Z2.out with ⟨_, h⟩ | ⟨_, h⟩
      · exact .inl h
      · exact .inr h
    clear Z2
    obtain ⟨g3, hg3⟩ : ∃ g, g = w3.heap.size := ⟨_, rfl⟩
    rw [← hg3] at c0 c1 c2 g4 ⊢
    clear hg3
    rcases Z2' with rfl | ⟨t2, u2, rfl⟩
    · go_wp2_with fail
      have hA := ba w4 (.cells #[.nilIface, .slice p2 len2 q2, .int .u32 0] 32)
      refine (zjeq_any k1 k2 len0 len2 q0 q2 p0 p2 (.iface t1 u1) (.nilIface) 0 0 z0 z2 _ (V1d.out.below hA) (V2.out.below hA) (R0d.out.below hA) (R2d.out.below hA) (by omega) (by omega)).mono ?_
      rintro e w5 ⟨g, rfl, hg, hb5⟩
      have HG := Lib.hid hg
      have R0e := Lib.hid ((R0d.out.below hA).below hb5)
      have R2e := Lib.hid ((R2d.out.below hA).below hb5)
      have B5 := Lib.hid (bel2 (bel2 B4.out hA) hb5)
      clear hg hb5 hA c0 c1 c2 g4 B4 R0d R2d V1d V2
      go_wp2_with fail
      refine (parts_eq _ _ _ _ _ _ z0 z2 _ R0e.out R2e.out (by omega) (by omega)).mono ?_
      rintro e w6 ⟨g', rfl, hg', hb6⟩
      have HG' := Lib.hid hg'
      have B6 := Lib.hid (bel2 B5.out hb6)
      clear hg' hb6 B5 R0e R2e
      have EQ := Lib.hid (same_answer HG.out HG'.out K1.out K2.out x0 y0)
      clear HG HG' K1 K2
      cases g'
      · go_wp2_with fail
        go_ret
        exact ⟨ret_bool (by have := EQ.out; simpa using this), B6.out⟩
      · go_wp2_with fail
        go_ret
        exact ⟨ret_bool (by have := EQ.out; simpa using this), B6.out⟩
    · go_wp2_with fail
      have hA := ba w4 (.cells #[.iface t2 u2, .slice p2 len2 q2, .int .u32 0] 32)
      refine (zjeq_any k1 k2 len0 len2 q0 q2 p0 p2 (.iface t1 u1) (.iface t2 u2) 0 0 z0 z2 _ (V1d.out.below hA) (V2.out.below hA) (R0d.out.below hA) (R2d.out.below hA) (by omega) (by omega)).mono ?_
      rintro e w5 ⟨g, rfl, hg, hb5⟩
      have HG := Lib.hid hg
      have R0e := Lib.hid ((R0d.out.below hA).below hb5)
      have R2e := Lib.hid ((R2d.out.below hA).below hb5)
      have B5 := Lib.hid (bel2 (bel2 B4.out hA) hb5)
      clear hg hb5 hA c0 c1 c2 g4 B4 R0d R2d V1d V2
      go_wp2_with fail
      refine (parts_eq _ _ _ _ _ _ z0 z2 _ R0e.out R2e.out (by omega) (by omega)).mono ?_
      rintro e w6 ⟨g', rfl, hg', hb6⟩
      have HG' := Lib.hid hg'
      have B6 := Lib.hid (bel2 B5.out hb6)
      clear hg' hb6 B5 R0e R2e
      have EQ := Lib.hid (same_answer HG.out HG'.out K1.out K2.out x0 y0)
      clear HG HG' K1 K2
      cases g'
      · go_wp2_with fail
        go_ret
        exact ⟨ret_bool (by have := EQ.out; simpa using this), B6.out⟩
      · go_wp2_with fail
        go_ret
        exact ⟨ret_bool (by have := EQ.out; simpa using this), B6.out⟩
end Go.Proofs.Ytcbbnkccfbgahaa.fnJsxExprsEqualTable
