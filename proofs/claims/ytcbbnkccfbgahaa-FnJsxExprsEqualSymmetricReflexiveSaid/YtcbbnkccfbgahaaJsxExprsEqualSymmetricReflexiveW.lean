/- Proved here: the walk of the law FnJsxExprsEqualSymmetricReflexive, for every input. -/
import Derived.Test.YtcbbnkccfbgahaaJXE
import Derived.WalkKit
import Derived.WalkSpells
import Derived.WalkLawsBesides
import Derived.Lib.Hide
import Derived.Lib.SliceRun
import Derived.Deep.RegionWith
import Derived.Deep.RegionHeld3
namespace Go.Proofs.Ytcbbnkccfbgahaa.fnJsxExprsEqualSymmetricReflexive
open Go.RowKit
set_option linter.unusedSimpArgs false
set_option linter.unusedVariables false

theorem IsStrs.below {w w1 : World} {a : Option Addr} {len cap : Nat} {zs : List ByteArray} (h : IsStrs w a len cap zs) (hb : Below w.heap.size w w1) : IsStrs w1 a len cap zs := by
  rcases h with h | ⟨x, e1, e2, e3, e4, hc, hw⟩
  · exact .inl h
  · refine .inr ⟨x, e1, e2, e3, e4, fun i hi => ?_, hw⟩
    have := hc i hi
    obtain ⟨b, off, rfl⟩ := spot_none (hc 0 (by omega))
    rw [add_none] at this ⊢
    exact kept hb this
theorem rowS {w : World} {a : Option Addr} {len cap : Nat} {zs : List ByteArray} (h : IsStrs w a len cap zs) : RowV w a len (fun i => .string (sAt zs i)) := rowv_strs h

set_option maxRecDepth 100000 in
theorem early (a0 : Option Addr) (len0 cap0 : Nat) (z0 : List ByteArray) (a1 : Int) (a2 : Option Addr) (len2 cap2 : Nat) (z2 : List ByteArray) (a3 : Int) (w : World) (w0 : IsStrs w a0 len0 cap0 z0) (w1 : (Lit.int .u8 a1).wf = true) (w2 : IsStrs w a2 len2 cap2 z2) (w3 : (Lit.int .u8 a3).wf = true) (h : 65536 < len0 ∨ 65536 < len2) :
    Calls Try.prog 4 #[.slice a0 len0 cap0, .int .u8 a1, .slice a2 len2 cap2, .int .u8 a3] w fun e w' => e = .returned (.bool true) ∧ Below w.heap.size w w' := by
  obtain ⟨l0, s0⟩ := len_strs w0
  obtain ⟨l2, s2⟩ := len_strs w2
  have R0 := Lib.hid (rowS w0)
  have R2 := Lib.hid (rowS w2)
  have S0 := Lib.hid s0
  have S2 := Lib.hid s2
  clear w0 w2 s0 s2 w1 w3
  unfold maxLen at l0 l2
  go_enter Try.func4, Try.ntmps4
  go_wp2_with fail
  refine (bytes15 _ _ _ _ _ _ z0 z2 _ _ _ R0.out R2.out (fun i => S0.out i) (fun i => S2.out i) l0 l2).mono ?_
  rintro e w' ⟨b, rfl, rfl⟩
  cases b
  · go_wp2_with fail
    go_ret
    exact ⟨rfl, Below.refl _ _⟩
  · go_wp2_with fail
    refine (pfail_big _ _ _ _ _ _ _ l0 l2 h).mono ?_
    rintro e w' ⟨rfl, rfl⟩
    go_wp2_with fail
    go_ret
    exact ⟨rfl, Below.refl _ _⟩

def Det (g : Bool) (w : World) (e : Ending) (w' : World) : Prop := e = .returned (.bool g) ∧ Below w.heap.size w w'
theorem zdet (g : Bool) (k1 k2 n m c d : Nat) (a b : Option Addr) (v1 v2 : Value) (x y : Int) (zs ys : List ByteArray) (w : World) (hg : g = true ↔ StrEq n m zs ys ∧ k1 = k2) (h1 : CV w k1 v1) (h2 : CV w k2 v2) (r1 : RowV w a n (fun i => .string (sAt zs i))) (r2 : RowV w b m (fun i => .string (sAt ys i))) (hn : n ≤ 1048576) (hm : m ≤ 1048576) :
    Calls Try.prog 13 #[.agg #[v1, .slice a n c, .int .u32 x], .agg #[v2, .slice b m d, .int .u32 y]] w (Det g w) := by
  refine (zjeq_any k1 k2 n m c d a b v1 v2 x y zs ys w h1 h2 r1 r2 hn hm).mono ?_
  rintro e w' ⟨g', rfl, hg', hb⟩
  have : g' = g := Bool.eq_iff_iff.2 (hg'.trans hg.symm)
  subst this
  exact ⟨rfl, hb⟩
theorem streq_comm {n m : Nat} {zs ys : List ByteArray} : StrEq n m zs ys ↔ StrEq m n ys zs := by
  constructor
  · rintro ⟨rfl, h⟩; exact ⟨rfl, fun i hi => (h i hi).symm⟩
  · rintro ⟨rfl, h⟩; exact ⟨rfl, fun i hi => (h i hi).symm⟩

set_option maxRecDepth 100000 in
set_option maxHeartbeats 4000000 in
theorem walk (a0 : Option Addr) (len0 cap0 : Nat) (z0 : List ByteArray) (a1 : Int) (a2 : Option Addr) (len2 cap2 : Nat) (z2 : List ByteArray) (a3 : Int) (w : World) (w0 : IsStrs w a0 len0 cap0 z0) (w1 : (Lit.int .u8 a1).wf = true) (w2 : IsStrs w a2 len2 cap2 z2) (w3 : (Lit.int .u8 a3).wf = true) :
    Calls Try.prog 4 #[.slice a0 len0 cap0, .int .u8 a1, .slice a2 len2 cap2, .int .u8 a3] w fun e w' => e = .returned (.bool true) ∧ Below w.heap.size w w' := by
  by_cases c : 65536 < len0 ∨ 65536 < len2
  · exact early a0 len0 cap0 z0 a1 a2 len2 cap2 z2 a3 w w0 w1 w2 w3 c
  have b0 : len0 ≤ 65536 := by omega
  have b2 : len2 ≤ 65536 := by omega
  obtain ⟨x0, x1⟩ := wf_u8 w1
  obtain ⟨y0, y1⟩ := wf_u8 w3
  have S0 := Lib.hid (len_strs w0).2
  have S2 := Lib.hid (len_strs w2).2
  have R0 := Lib.hid (rowS w0)
  have R2 := Lib.hid (rowS w2)
  have I0 := Lib.hid w0
  have I2 := Lib.hid w2
  clear w0 w1 w2 w3 c
  go_enter Try.func4, Try.ntmps4
  go_wp2_with fail
  refine (bytes15 _ _ _ _ _ _ z0 z2 _ _ _ R0.out R2.out (fun i => S0.out i) (fun i => S2.out i) (by omega) (by omega)).mono ?_
  rintro e w' ⟨b, rfl, rfl⟩
  cases b
  · go_wp2_with fail
    go_ret
    exact ⟨rfl, Below.refl _ _⟩
  go_wp2_with fail
  refine (pfail_some _ _ _ _ _ _ z0 z2 _ R0.out R2.out (fun i => S0.out i) (fun i => S2.out i) b0 b2).mono ?_
  rintro e w' ⟨b, rfl, rfl⟩
  cases b
  case true =>
    go_wp2_with fail
    go_ret
    exact ⟨rfl, Below.refl _ _⟩
  clear R0 R2 S0 S2
  go_wp2_with fail
  refine (cpS_any a0 len0 cap0 z0 w I0.out (by omega)).mono ?_
  rintro e w1 ⟨p0, q0, rfl, r0, hb1⟩
  have R0 := Lib.hid (show RowV w1 p0 len0 (fun i => .string (sAt z0 i)) from r0)
  have J2 := Lib.hid (IsStrs.below I2.out hb1)
  have B1 := Lib.hid hb1
  clear r0 I0 I2 hb1
  go_wp2_with fail
  refine (cpS_any a2 len2 cap2 z2 w1 J2.out (by omega)).mono ?_
  rintro e w2 ⟨p2, q2, rfl, r2, hb2⟩
  have R2 := Lib.hid (show RowV w2 p2 len2 (fun i => .string (sAt z2 i)) from r2)
  have R0b := Lib.hid (R0.out.below hb2)
  have B2 := Lib.hid (bel2 B1.out hb2)
  clear r2 J2 hb2 R0 B1
  go_wp2_with fail
  refine (define_any p0 len0 q0 a1 w2 x0 x1).mono ?_
  rintro e w3 ⟨v1, rfl, hv1, hb3⟩
  have B3 := Lib.hid (bel2 B2.out hb3)
  have R0c := Lib.hid (R0b.out.below hb3)
  have R2c := Lib.hid (R2.out.below hb3)
  have V1 := Lib.hid hv1
  have Z1 := Lib.hid hv1.zero
  clear hv1 hb3 B2 R0b R2
  obtain ⟨k1, hk1⟩ : ∃ k, k = (a1 % 5).toNat := ⟨_, rfl⟩
  rw [← hk1] at V1 Z1
  have K1 := Lib.hid hk1
  clear hk1
  have Z1' : v1 = .nilIface ∨ ∃ t p, v1 = .iface t p := by
    rcases Z1.out with ⟨_, h⟩ | ⟨_, h⟩
    · exact .inl h
    · exact .inr h
  clear Z1
  rcases Z1' with rfl | ⟨t1, u1, rfl⟩
  · go_wp2_with fail
    have hA := ba w3 (.cells #[.nilIface, .slice p0 len0 q0, .int .u32 0] 32)
    refine (define_any p2 len2 q2 a3 (w3.alloc (.cells #[.nilIface, .slice p0 len0 q0, .int .u32 0] 32)) y0 y1).mono ?_
    rintro e w4 ⟨v2, rfl, hv2, hb4⟩
    have B4 := Lib.hid (bel2 (bel2 B3.out hA) hb4)
    have R0d := Lib.hid ((R0c.out.below hA).below hb4)
    have R2d := Lib.hid ((R2c.out.below hA).below hb4)
    have V1d := Lib.hid ((V1.out.below hA).below hb4)
    have V2 := Lib.hid hv2
    have Z2 := Lib.hid hv2.zero
    have c0 := kept hb4 (show (w3.alloc (.cells #[.nilIface, .slice p0 len0 q0, .int .u32 0] 32)).cell? ⟨w3.heap.size, 0, none⟩ = some (.nilIface) by go_simp)
    have c1 := kept hb4 (show (w3.alloc (.cells #[.nilIface, .slice p0 len0 q0, .int .u32 0] 32)).cell? ⟨w3.heap.size, 1, none⟩ = some (.slice p0 len0 q0) by go_simp)
    have c2 := kept hb4 (show (w3.alloc (.cells #[.nilIface, .slice p0 len0 q0, .int .u32 0] 32)).cell? ⟨w3.heap.size, 2, none⟩ = some (.int .u32 0) by go_simp)
    have g4 : w3.heap.size < w4.heap.size := World.block_lt_of_cell? _ _ c0
    clear hv2 hb4 hA B3 R0c R2c V1
    obtain ⟨k2, hk2⟩ : ∃ k, k = (a3 % 5).toNat := ⟨_, rfl⟩
    rw [← hk2] at V2 Z2
    have K2 := Lib.hid hk2
    clear hk2
    have Z2' : v2 = .nilIface ∨ ∃ t p, v2 = .iface t p := by
      rcases Z2.out with ⟨_, h⟩ | ⟨_, h⟩
      · exact .inl h
      · exact .inr h
    clear Z2
    obtain ⟨g3, hg3⟩ : ∃ g, g = w3.heap.size := ⟨_, rfl⟩
    rw [← hg3] at c0 c1 c2 g4 ⊢
    clear hg3
    rcases Z2' with rfl | ⟨t2, u2, rfl⟩
    · go_wp2_with fail
      have hA := ba w4 (.cells #[.nilIface, .slice p2 len2 q2, .int .u32 0] 32)
      obtain ⟨W0, hW0⟩ : ∃ W, W = w4.alloc (.cells #[.nilIface, .slice p2 len2 q2, .int .u32 0] 32) := ⟨_, rfl⟩
      have n0 : W0.cell? ⟨g3, 0, none⟩ = some (.nilIface) := by rw [hW0]; exact kAlloc c0
      have n1 : W0.cell? ⟨g3, 1, none⟩ = some (.slice p0 len0 q0) := by rw [hW0]; exact kAlloc c1
      have n2 : W0.cell? ⟨g3, 2, none⟩ = some (.int .u32 0) := by rw [hW0]; exact kAlloc c2
      have n3 : W0.cell? ⟨w4.heap.size, 0, none⟩ = some (.nilIface) := by rw [hW0]; go_simp
      have n4 : W0.cell? ⟨w4.heap.size, 1, none⟩ = some (.slice p2 len2 q2) := by rw [hW0]; go_simp
      have n5 : W0.cell? ⟨w4.heap.size, 2, none⟩ = some (.int .u32 0) := by rw [hW0]; go_simp
      rw [← hW0] at hA ⊢
      have X1 := Lib.hid (V1d.out.below hA)
      have X2 := Lib.hid (V2.out.below hA)
      have Y1 := Lib.hid (R0d.out.below hA)
      have Y2 := Lib.hid (R2d.out.below hA)
      have B5 := Lib.hid (bel2 B4.out hA)
      obtain ⟨g4', hg4⟩ : ∃ g, g = w4.heap.size := ⟨_, rfl⟩
      rw [← hg4] at n3 n4 n5 ⊢
      clear hA hW0 hg4 c0 c1 c2 g4 B4 R0d R2d V1d V2
      have J11 := Lib.hid (show ∀ W', Below W0.heap.size W0 W' → Calls Try.prog 13 #[.agg #[.nilIface, .slice p0 len0 q0, .int .u32 0], .agg #[.nilIface, .slice p0 len0 q0, .int .u32 0]] W' (Det true W') from fun W' hW' => zdet true k1 k1 len0 len0 q0 q0 p0 p0 _ _ 0 0 z0 z0 W' ⟨fun _ => ⟨⟨rfl, fun _ _ => rfl⟩, rfl⟩, fun _ => rfl⟩ (X1.out.below hW') (X1.out.below hW') (Y1.out.below hW') (Y1.out.below hW') (by omega) (by omega))
      have J22 := Lib.hid (show ∀ W', Below W0.heap.size W0 W' → Calls Try.prog 13 #[.agg #[.nilIface, .slice p2 len2 q2, .int .u32 0], .agg #[.nilIface, .slice p2 len2 q2, .int .u32 0]] W' (Det true W') from fun W' hW' => zdet true k2 k2 len2 len2 q2 q2 p2 p2 _ _ 0 0 z2 z2 W' ⟨fun _ => ⟨⟨rfl, fun _ _ => rfl⟩, rfl⟩, fun _ => rfl⟩ (X2.out.below hW') (X2.out.below hW') (Y2.out.below hW') (Y2.out.below hW') (by omega) (by omega))
      obtain ⟨g, hg⟩ : ∃ g : Bool, g = true ↔ StrEq len0 len2 z0 z2 ∧ k1 = k2 := by
        by_cases h : StrEq len0 len2 z0 z2 ∧ k1 = k2
        · exact ⟨true, by simp [h]⟩
        · exact ⟨false, by simp [h]⟩
      have J12 := Lib.hid (show ∀ W', Below W0.heap.size W0 W' → Calls Try.prog 13 #[.agg #[.nilIface, .slice p0 len0 q0, .int .u32 0], .agg #[.nilIface, .slice p2 len2 q2, .int .u32 0]] W' (Det g W') from fun W' hW' => zdet g k1 k2 len0 len2 q0 q2 p0 p2 _ _ 0 0 z0 z2 W' hg (X1.out.below hW') (X2.out.below hW') (Y1.out.below hW') (Y2.out.below hW') (by omega) (by omega))
      have J21 := Lib.hid (show ∀ W', Below W0.heap.size W0 W' → Calls Try.prog 13 #[.agg #[.nilIface, .slice p2 len2 q2, .int .u32 0], .agg #[.nilIface, .slice p0 len0 q0, .int .u32 0]] W' (Det g W') from fun W' hW' => zdet g k2 k1 len2 len0 q2 q0 p2 p0 _ _ 0 0 z2 z0 W' (by rw [hg, streq_comm]; exact ⟨fun h => ⟨h.1, h.2.symm⟩, fun h => ⟨h.1, h.2.symm⟩⟩) (X2.out.below hW') (X1.out.below hW') (Y2.out.below hW') (Y1.out.below hW') (by omega) (by omega))
      clear hg X1 X2 Y1 Y2 K1 K2
      go_wp2_with fail
      refine (J11.out W0 (Below.refl _ _)).mono ?_
      rintro e w5 ⟨rfl, hb5⟩
      have o0 := kept hb5 n0
      have o1 := kept hb5 n1
      have o2 := kept hb5 n2
      have o3 := kept hb5 n3
      have o4 := kept hb5 n4
      have o5 := kept hb5 n5
      go_wp2_with fail
      refine (J22.out w5 hb5).mono ?_
      rintro e W ⟨rfl, hb6⟩
      have n0 := kept hb6 o0
      have n1 := kept hb6 o1
      have n2 := kept hb6 o2
      have n3 := kept hb6 o3
      have n4 := kept hb6 o4
      have n5 := kept hb6 o5
      have B7 := Lib.hid (bel2 (bel2 B5.out hb5) hb6)
      have HB := bel2 hb5 hb6
      have P12 := Lib.hid (show ∀ W', Below W.heap.size W W' → Calls Try.prog 13 #[.agg #[.nilIface, .slice p0 len0 q0, .int .u32 0], .agg #[.nilIface, .slice p2 len2 q2, .int .u32 0]] W' (Det g W') from fun W' hW' => J12.out W' (bel2 HB hW'))
      have P21 := Lib.hid (show ∀ W', Below W.heap.size W W' → Calls Try.prog 13 #[.agg #[.nilIface, .slice p2 len2 q2, .int .u32 0], .agg #[.nilIface, .slice p0 len0 q0, .int .u32 0]] W' (Det g W') from fun W' hW' => J21.out W' (bel2 HB hW'))
      clear hb5 hb6 B5 HB J11 J22 J12 J21 o0 o1 o2 o3 o4 o5
      obtain ⟨g4, rfl⟩ : ∃ g, g = g4' := ⟨_, rfl⟩
      go_wp2_with fail
      go_region_held3 (fun w' => w'.cell? ⟨g3, 0, none⟩ = some (.nilIface) ∧ w'.cell? ⟨g3, 1, none⟩ = some (.slice p0 len0 q0) ∧ w'.cell? ⟨g3, 2, none⟩ = some (.int .u32 0) ∧ w'.cell? ⟨g4, 0, none⟩ = some (.nilIface) ∧ w'.cell? ⟨g4, 1, none⟩ = some (.slice p2 len2 q2) ∧ w'.cell? ⟨g4, 2, none⟩ = some (.int .u32 0)) (repeat' (first | (refine And.intro ?_ ?_) | assumption | apply kAlloc | apply kDrew | (refine kSet ?_ (by omega)))) (first | (go_at_call_of 13 (Value.agg #[.nilIface, .slice p0 len0 q0, .int .u32 0]); (refine (P12.out _ (by first | assumption | exact Below.drew (by assumption) | exact Below.refl _ _ | exact (Below.refl _ _).drew)).mono ?_; rintro e wz ⟨rfl, hb⟩; have HH := bel2 (by first | assumption | exact Below.drew (by assumption) | exact Below.refl _ _ | exact (Below.refl _ _).drew : Below W.heap.size W _) hb; have m0 : wz.cell? ⟨g3, 0, none⟩ = some (.nilIface) := kept hb (by first | assumption | (apply kDrew; assumption)); have m1 : wz.cell? ⟨g3, 1, none⟩ = some (.slice p0 len0 q0) := kept hb (by first | assumption | (apply kDrew; assumption)); have m2 : wz.cell? ⟨g3, 2, none⟩ = some (.int .u32 0) := kept hb (by first | assumption | (apply kDrew; assumption)); have m3 : wz.cell? ⟨g4, 0, none⟩ = some (.nilIface) := kept hb (by first | assumption | (apply kDrew; assumption)); have m4 : wz.cell? ⟨g4, 1, none⟩ = some (.slice p2 len2 q2) := kept hb (by first | assumption | (apply kDrew; assumption)); have m5 : wz.cell? ⟨g4, 2, none⟩ = some (.int .u32 0) := kept hb (by first | assumption | (apply kDrew; assumption)))) | (go_at_call_of 13 (Value.agg #[.nilIface, .slice p2 len2 q2, .int .u32 0]); (refine (P21.out _ (by first | assumption | exact Below.drew (by assumption) | exact Below.refl _ _ | exact (Below.refl _ _).drew)).mono ?_; rintro e wz ⟨rfl, hb⟩; have HH := bel2 (by first | assumption | exact Below.drew (by assumption) | exact Below.refl _ _ | exact (Below.refl _ _).drew : Below W.heap.size W _) hb; have m0 : wz.cell? ⟨g3, 0, none⟩ = some (.nilIface) := kept hb (by first | assumption | (apply kDrew; assumption)); have m1 : wz.cell? ⟨g3, 1, none⟩ = some (.slice p0 len0 q0) := kept hb (by first | assumption | (apply kDrew; assumption)); have m2 : wz.cell? ⟨g3, 2, none⟩ = some (.int .u32 0) := kept hb (by first | assumption | (apply kDrew; assumption)); have m3 : wz.cell? ⟨g4, 0, none⟩ = some (.nilIface) := kept hb (by first | assumption | (apply kDrew; assumption)); have m4 : wz.cell? ⟨g4, 1, none⟩ = some (.slice p2 len2 q2) := kept hb (by first | assumption | (apply kDrew; assumption)); have m5 : wz.cell? ⟨g4, 2, none⟩ = some (.int .u32 0) := kept hb (by first | assumption | (apply kDrew; assumption)))))
      all_goals
        go_wp2_with fail
        go_ret
        exact ⟨ret_bool (by simp), bel2 B7.out (by first | assumption | exact Below.drew (by assumption))⟩
    · go_wp2_with fail
      have hA := ba w4 (.cells #[.iface t2 u2, .slice p2 len2 q2, .int .u32 0] 32)
      obtain ⟨W0, hW0⟩ : ∃ W, W = w4.alloc (.cells #[.iface t2 u2, .slice p2 len2 q2, .int .u32 0] 32) := ⟨_, rfl⟩
      have n0 : W0.cell? ⟨g3, 0, none⟩ = some (.nilIface) := by rw [hW0]; exact kAlloc c0
      have n1 : W0.cell? ⟨g3, 1, none⟩ = some (.slice p0 len0 q0) := by rw [hW0]; exact kAlloc c1
      have n2 : W0.cell? ⟨g3, 2, none⟩ = some (.int .u32 0) := by rw [hW0]; exact kAlloc c2
      have n3 : W0.cell? ⟨w4.heap.size, 0, none⟩ = some (.iface t2 u2) := by rw [hW0]; go_simp
      have n4 : W0.cell? ⟨w4.heap.size, 1, none⟩ = some (.slice p2 len2 q2) := by rw [hW0]; go_simp
      have n5 : W0.cell? ⟨w4.heap.size, 2, none⟩ = some (.int .u32 0) := by rw [hW0]; go_simp
      rw [← hW0] at hA ⊢
      have X1 := Lib.hid (V1d.out.below hA)
      have X2 := Lib.hid (V2.out.below hA)
      have Y1 := Lib.hid (R0d.out.below hA)
      have Y2 := Lib.hid (R2d.out.below hA)
      have B5 := Lib.hid (bel2 B4.out hA)
      obtain ⟨g4', hg4⟩ : ∃ g, g = w4.heap.size := ⟨_, rfl⟩
      rw [← hg4] at n3 n4 n5 ⊢
      clear hA hW0 hg4 c0 c1 c2 g4 B4 R0d R2d V1d V2
      have J11 := Lib.hid (show ∀ W', Below W0.heap.size W0 W' → Calls Try.prog 13 #[.agg #[.nilIface, .slice p0 len0 q0, .int .u32 0], .agg #[.nilIface, .slice p0 len0 q0, .int .u32 0]] W' (Det true W') from fun W' hW' => zdet true k1 k1 len0 len0 q0 q0 p0 p0 _ _ 0 0 z0 z0 W' ⟨fun _ => ⟨⟨rfl, fun _ _ => rfl⟩, rfl⟩, fun _ => rfl⟩ (X1.out.below hW') (X1.out.below hW') (Y1.out.below hW') (Y1.out.below hW') (by omega) (by omega))
      have J22 := Lib.hid (show ∀ W', Below W0.heap.size W0 W' → Calls Try.prog 13 #[.agg #[.iface t2 u2, .slice p2 len2 q2, .int .u32 0], .agg #[.iface t2 u2, .slice p2 len2 q2, .int .u32 0]] W' (Det true W') from fun W' hW' => zdet true k2 k2 len2 len2 q2 q2 p2 p2 _ _ 0 0 z2 z2 W' ⟨fun _ => ⟨⟨rfl, fun _ _ => rfl⟩, rfl⟩, fun _ => rfl⟩ (X2.out.below hW') (X2.out.below hW') (Y2.out.below hW') (Y2.out.below hW') (by omega) (by omega))
      obtain ⟨g, hg⟩ : ∃ g : Bool, g = true ↔ StrEq len0 len2 z0 z2 ∧ k1 = k2 := by
        by_cases h : StrEq len0 len2 z0 z2 ∧ k1 = k2
        · exact ⟨true, by simp [h]⟩
        · exact ⟨false, by simp [h]⟩
      have J12 := Lib.hid (show ∀ W', Below W0.heap.size W0 W' → Calls Try.prog 13 #[.agg #[.nilIface, .slice p0 len0 q0, .int .u32 0], .agg #[.iface t2 u2, .slice p2 len2 q2, .int .u32 0]] W' (Det g W') from fun W' hW' => zdet g k1 k2 len0 len2 q0 q2 p0 p2 _ _ 0 0 z0 z2 W' hg (X1.out.below hW') (X2.out.below hW') (Y1.out.below hW') (Y2.out.below hW') (by omega) (by omega))
      have J21 := Lib.hid (show ∀ W', Below W0.heap.size W0 W' → Calls Try.prog 13 #[.agg #[.iface t2 u2, .slice p2 len2 q2, .int .u32 0], .agg #[.nilIface, .slice p0 len0 q0, .int .u32 0]] W' (Det g W') from fun W' hW' => zdet g k2 k1 len2 len0 q2 q0 p2 p0 _ _ 0 0 z2 z0 W' (by rw [hg, streq_comm]; exact ⟨fun h => ⟨h.1, h.2.symm⟩, fun h => ⟨h.1, h.2.symm⟩⟩) (X2.out.below hW') (X1.out.below hW') (Y2.out.below hW') (Y1.out.below hW') (by omega) (by omega))
      clear hg X1 X2 Y1 Y2 K1 K2
      go_wp2_with fail
      refine (J11.out W0 (Below.refl _ _)).mono ?_
      rintro e w5 ⟨rfl, hb5⟩
      have o0 := kept hb5 n0
      have o1 := kept hb5 n1
      have o2 := kept hb5 n2
      have o3 := kept hb5 n3
      have o4 := kept hb5 n4
      have o5 := kept hb5 n5
      go_wp2_with fail
      refine (J22.out w5 hb5).mono ?_
      rintro e W ⟨rfl, hb6⟩
      have n0 := kept hb6 o0
      have n1 := kept hb6 o1
      have n2 := kept hb6 o2
      have n3 := kept hb6 o3
      have n4 := kept hb6 o4
      have n5 := kept hb6 o5
      have B7 := Lib.hid (bel2 (bel2 B5.out hb5) hb6)
      have HB := bel2 hb5 hb6
      have P12 := Lib.hid (show ∀ W', Below W.heap.size W W' → Calls Try.prog 13 #[.agg #[.nilIface, .slice p0 len0 q0, .int .u32 0], .agg #[.iface t2 u2, .slice p2 len2 q2, .int .u32 0]] W' (Det g W') from fun W' hW' => J12.out W' (bel2 HB hW'))
      have P21 := Lib.hid (show ∀ W', Below W.heap.size W W' → Calls Try.prog 13 #[.agg #[.iface t2 u2, .slice p2 len2 q2, .int .u32 0], .agg #[.nilIface, .slice p0 len0 q0, .int .u32 0]] W' (Det g W') from fun W' hW' => J21.out W' (bel2 HB hW'))
      clear hb5 hb6 B5 HB J11 J22 J12 J21 o0 o1 o2 o3 o4 o5
      obtain ⟨g4, rfl⟩ : ∃ g, g = g4' := ⟨_, rfl⟩
      go_wp2_with fail
      go_region_held3 (fun w' => w'.cell? ⟨g3, 0, none⟩ = some (.nilIface) ∧ w'.cell? ⟨g3, 1, none⟩ = some (.slice p0 len0 q0) ∧ w'.cell? ⟨g3, 2, none⟩ = some (.int .u32 0) ∧ w'.cell? ⟨g4, 0, none⟩ = some (.iface t2 u2) ∧ w'.cell? ⟨g4, 1, none⟩ = some (.slice p2 len2 q2) ∧ w'.cell? ⟨g4, 2, none⟩ = some (.int .u32 0)) (repeat' (first | (refine And.intro ?_ ?_) | assumption | apply kAlloc | apply kDrew | (refine kSet ?_ (by omega)))) (first | (go_at_call_of 13 (Value.agg #[.nilIface, .slice p0 len0 q0, .int .u32 0]); (refine (P12.out _ (by first | assumption | exact Below.drew (by assumption) | exact Below.refl _ _ | exact (Below.refl _ _).drew)).mono ?_; rintro e wz ⟨rfl, hb⟩; have HH := bel2 (by first | assumption | exact Below.drew (by assumption) | exact Below.refl _ _ | exact (Below.refl _ _).drew : Below W.heap.size W _) hb; have m0 : wz.cell? ⟨g3, 0, none⟩ = some (.nilIface) := kept hb (by first | assumption | (apply kDrew; assumption)); have m1 : wz.cell? ⟨g3, 1, none⟩ = some (.slice p0 len0 q0) := kept hb (by first | assumption | (apply kDrew; assumption)); have m2 : wz.cell? ⟨g3, 2, none⟩ = some (.int .u32 0) := kept hb (by first | assumption | (apply kDrew; assumption)); have m3 : wz.cell? ⟨g4, 0, none⟩ = some (.iface t2 u2) := kept hb (by first | assumption | (apply kDrew; assumption)); have m4 : wz.cell? ⟨g4, 1, none⟩ = some (.slice p2 len2 q2) := kept hb (by first | assumption | (apply kDrew; assumption)); have m5 : wz.cell? ⟨g4, 2, none⟩ = some (.int .u32 0) := kept hb (by first | assumption | (apply kDrew; assumption)))) | (go_at_call_of 13 (Value.agg #[.iface t2 u2, .slice p2 len2 q2, .int .u32 0]); (refine (P21.out _ (by first | assumption | exact Below.drew (by assumption) | exact Below.refl _ _ | exact (Below.refl _ _).drew)).mono ?_; rintro e wz ⟨rfl, hb⟩; have HH := bel2 (by first | assumption | exact Below.drew (by assumption) | exact Below.refl _ _ | exact (Below.refl _ _).drew : Below W.heap.size W _) hb; have m0 : wz.cell? ⟨g3, 0, none⟩ = some (.nilIface) := kept hb (by first | assumption | (apply kDrew; assumption)); have m1 : wz.cell? ⟨g3, 1, none⟩ = some (.slice p0 len0 q0) := kept hb (by first | assumption | (apply kDrew; assumption)); have m2 : wz.cell? ⟨g3, 2, none⟩ = some (.int .u32 0) := kept hb (by first | assumption | (apply kDrew; assumption)); have m3 : wz.cell? ⟨g4, 0, none⟩ = some (.iface t2 u2) := kept hb (by first | assumption | (apply kDrew; assumption)); have m4 : wz.cell? ⟨g4, 1, none⟩ = some (.slice p2 len2 q2) := kept hb (by first | assumption | (apply kDrew; assumption)); have m5 : wz.cell? ⟨g4, 2, none⟩ = some (.int .u32 0) := kept hb (by first | assumption | (apply kDrew; assumption)))))
      all_goals
        go_wp2_with fail
        go_ret
        exact ⟨ret_bool (by simp), bel2 B7.out (by first | assumption | exact Below.drew (by assumption))⟩
  · go_wp2_with fail
    have hA := ba w3 (.cells #[.iface t1 u1, .slice p0 len0 q0, .int .u32 0] 32)
    refine (define_any p2 len2 q2 a3 (w3.alloc (.cells #[.iface t1 u1, .slice p0 len0 q0, .int .u32 0] 32)) y0 y1).mono ?_
    rintro e w4 ⟨v2, rfl, hv2, hb4⟩
    have B4 := Lib.hid (bel2 (bel2 B3.out hA) hb4)
    have R0d := Lib.hid ((R0c.out.below hA).below hb4)
    have R2d := Lib.hid ((R2c.out.below hA).below hb4)
    have V1d := Lib.hid ((V1.out.below hA).below hb4)
    have V2 := Lib.hid hv2
    have Z2 := Lib.hid hv2.zero
    have c0 := kept hb4 (show (w3.alloc (.cells #[.iface t1 u1, .slice p0 len0 q0, .int .u32 0] 32)).cell? ⟨w3.heap.size, 0, none⟩ = some (.iface t1 u1) by go_simp)
    have c1 := kept hb4 (show (w3.alloc (.cells #[.iface t1 u1, .slice p0 len0 q0, .int .u32 0] 32)).cell? ⟨w3.heap.size, 1, none⟩ = some (.slice p0 len0 q0) by go_simp)
    have c2 := kept hb4 (show (w3.alloc (.cells #[.iface t1 u1, .slice p0 len0 q0, .int .u32 0] 32)).cell? ⟨w3.heap.size, 2, none⟩ = some (.int .u32 0) by go_simp)
    have g4 : w3.heap.size < w4.heap.size := World.block_lt_of_cell? _ _ c0
    clear hv2 hb4 hA B3 R0c R2c V1
    obtain ⟨k2, hk2⟩ : ∃ k, k = (a3 % 5).toNat := ⟨_, rfl⟩
    rw [← hk2] at V2 Z2
    have K2 := Lib.hid hk2
    clear hk2
    have Z2' : v2 = .nilIface ∨ ∃ t p, v2 = .iface t p := by
      rcases Z2.out with ⟨_, h⟩ | ⟨_, h⟩
      · exact .inl h
      · exact .inr h
    clear Z2
    obtain ⟨g3, hg3⟩ : ∃ g, g = w3.heap.size := ⟨_, rfl⟩
    rw [← hg3] at c0 c1 c2 g4 ⊢
    clear hg3
    rcases Z2' with rfl | ⟨t2, u2, rfl⟩
    · go_wp2_with fail
      have hA := ba w4 (.cells #[.nilIface, .slice p2 len2 q2, .int .u32 0] 32)
      obtain ⟨W0, hW0⟩ : ∃ W, W = w4.alloc (.cells #[.nilIface, .slice p2 len2 q2, .int .u32 0] 32) := ⟨_, rfl⟩
      have n0 : W0.cell? ⟨g3, 0, none⟩ = some (.iface t1 u1) := by rw [hW0]; exact kAlloc c0
      have n1 : W0.cell? ⟨g3, 1, none⟩ = some (.slice p0 len0 q0) := by rw [hW0]; exact kAlloc c1
      have n2 : W0.cell? ⟨g3, 2, none⟩ = some (.int .u32 0) := by rw [hW0]; exact kAlloc c2
      have n3 : W0.cell? ⟨w4.heap.size, 0, none⟩ = some (.nilIface) := by rw [hW0]; go_simp
      have n4 : W0.cell? ⟨w4.heap.size, 1, none⟩ = some (.slice p2 len2 q2) := by rw [hW0]; go_simp
      have n5 : W0.cell? ⟨w4.heap.size, 2, none⟩ = some (.int .u32 0) := by rw [hW0]; go_simp
      rw [← hW0] at hA ⊢
      have X1 := Lib.hid (V1d.out.below hA)
      have X2 := Lib.hid (V2.out.below hA)
      have Y1 := Lib.hid (R0d.out.below hA)
      have Y2 := Lib.hid (R2d.out.below hA)
      have B5 := Lib.hid (bel2 B4.out hA)
      obtain ⟨g4', hg4⟩ : ∃ g, g = w4.heap.size := ⟨_, rfl⟩
      rw [← hg4] at n3 n4 n5 ⊢
      clear hA hW0 hg4 c0 c1 c2 g4 B4 R0d R2d V1d V2
      have J11 := Lib.hid (show ∀ W', Below W0.heap.size W0 W' → Calls Try.prog 13 #[.agg #[.iface t1 u1, .slice p0 len0 q0, .int .u32 0], .agg #[.iface t1 u1, .slice p0 len0 q0, .int .u32 0]] W' (Det true W') from fun W' hW' => zdet true k1 k1 len0 len0 q0 q0 p0 p0 _ _ 0 0 z0 z0 W' ⟨fun _ => ⟨⟨rfl, fun _ _ => rfl⟩, rfl⟩, fun _ => rfl⟩ (X1.out.below hW') (X1.out.below hW') (Y1.out.below hW') (Y1.out.below hW') (by omega) (by omega))
      have J22 := Lib.hid (show ∀ W', Below W0.heap.size W0 W' → Calls Try.prog 13 #[.agg #[.nilIface, .slice p2 len2 q2, .int .u32 0], .agg #[.nilIface, .slice p2 len2 q2, .int .u32 0]] W' (Det true W') from fun W' hW' => zdet true k2 k2 len2 len2 q2 q2 p2 p2 _ _ 0 0 z2 z2 W' ⟨fun _ => ⟨⟨rfl, fun _ _ => rfl⟩, rfl⟩, fun _ => rfl⟩ (X2.out.below hW') (X2.out.below hW') (Y2.out.below hW') (Y2.out.below hW') (by omega) (by omega))
      obtain ⟨g, hg⟩ : ∃ g : Bool, g = true ↔ StrEq len0 len2 z0 z2 ∧ k1 = k2 := by
        by_cases h : StrEq len0 len2 z0 z2 ∧ k1 = k2
        · exact ⟨true, by simp [h]⟩
        · exact ⟨false, by simp [h]⟩
      have J12 := Lib.hid (show ∀ W', Below W0.heap.size W0 W' → Calls Try.prog 13 #[.agg #[.iface t1 u1, .slice p0 len0 q0, .int .u32 0], .agg #[.nilIface, .slice p2 len2 q2, .int .u32 0]] W' (Det g W') from fun W' hW' => zdet g k1 k2 len0 len2 q0 q2 p0 p2 _ _ 0 0 z0 z2 W' hg (X1.out.below hW') (X2.out.below hW') (Y1.out.below hW') (Y2.out.below hW') (by omega) (by omega))
      have J21 := Lib.hid (show ∀ W', Below W0.heap.size W0 W' → Calls Try.prog 13 #[.agg #[.nilIface, .slice p2 len2 q2, .int .u32 0], .agg #[.iface t1 u1, .slice p0 len0 q0, .int .u32 0]] W' (Det g W') from fun W' hW' => zdet g k2 k1 len2 len0 q2 q0 p2 p0 _ _ 0 0 z2 z0 W' (by rw [hg, streq_comm]; exact ⟨fun h => ⟨h.1, h.2.symm⟩, fun h => ⟨h.1, h.2.symm⟩⟩) (X2.out.below hW') (X1.out.below hW') (Y2.out.below hW') (Y1.out.below hW') (by omega) (by omega))
      clear hg X1 X2 Y1 Y2 K1 K2
      go_wp2_with fail
      refine (J11.out W0 (Below.refl _ _)).mono ?_
      rintro e w5 ⟨rfl, hb5⟩
      have o0 := kept hb5 n0
      have o1 := kept hb5 n1
      have o2 := kept hb5 n2
      have o3 := kept hb5 n3
      have o4 := kept hb5 n4
      have o5 := kept hb5 n5
      go_wp2_with fail
      refine (J22.out w5 hb5).mono ?_
      rintro e W ⟨rfl, hb6⟩
      have n0 := kept hb6 o0
      have n1 := kept hb6 o1
      have n2 := kept hb6 o2
      have n3 := kept hb6 o3
      have n4 := kept hb6 o4
      have n5 := kept hb6 o5
      have B7 := Lib.hid (bel2 (bel2 B5.out hb5) hb6)
      have HB := bel2 hb5 hb6
      have P12 := Lib.hid (show ∀ W', Below W.heap.size W W' → Calls Try.prog 13 #[.agg #[.iface t1 u1, .slice p0 len0 q0, .int .u32 0], .agg #[.nilIface, .slice p2 len2 q2, .int .u32 0]] W' (Det g W') from fun W' hW' => J12.out W' (bel2 HB hW'))
      have P21 := Lib.hid (show ∀ W', Below W.heap.size W W' → Calls Try.prog 13 #[.agg #[.nilIface, .slice p2 len2 q2, .int .u32 0], .agg #[.iface t1 u1, .slice p0 len0 q0, .int .u32 0]] W' (Det g W') from fun W' hW' => J21.out W' (bel2 HB hW'))
      clear hb5 hb6 B5 HB J11 J22 J12 J21 o0 o1 o2 o3 o4 o5
      obtain ⟨g4, rfl⟩ : ∃ g, g = g4' := ⟨_, rfl⟩
      go_wp2_with fail
      go_region_held3 (fun w' => w'.cell? ⟨g3, 0, none⟩ = some (.iface t1 u1) ∧ w'.cell? ⟨g3, 1, none⟩ = some (.slice p0 len0 q0) ∧ w'.cell? ⟨g3, 2, none⟩ = some (.int .u32 0) ∧ w'.cell? ⟨g4, 0, none⟩ = some (.nilIface) ∧ w'.cell? ⟨g4, 1, none⟩ = some (.slice p2 len2 q2) ∧ w'.cell? ⟨g4, 2, none⟩ = some (.int .u32 0)) (repeat' (first | (refine And.intro ?_ ?_) | assumption | apply kAlloc | apply kDrew | (refine kSet ?_ (by omega)))) (first | (go_at_call_of 13 (Value.agg #[.iface t1 u1, .slice p0 len0 q0, .int .u32 0]); (refine (P12.out _ (by first | assumption | exact Below.drew (by assumption) | exact Below.refl _ _ | exact (Below.refl _ _).drew)).mono ?_; rintro e wz ⟨rfl, hb⟩; have HH := bel2 (by first | assumption | exact Below.drew (by assumption) | exact Below.refl _ _ | exact (Below.refl _ _).drew : Below W.heap.size W _) hb; have m0 : wz.cell? ⟨g3, 0, none⟩ = some (.iface t1 u1) := kept hb (by first | assumption | (apply kDrew; assumption)); have m1 : wz.cell? ⟨g3, 1, none⟩ = some (.slice p0 len0 q0) := kept hb (by first | assumption | (apply kDrew; assumption)); have m2 : wz.cell? ⟨g3, 2, none⟩ = some (.int .u32 0) := kept hb (by first | assumption | (apply kDrew; assumption)); have m3 : wz.cell? ⟨g4, 0, none⟩ = some (.nilIface) := kept hb (by first | assumption | (apply kDrew; assumption)); have m4 : wz.cell? ⟨g4, 1, none⟩ = some (.slice p2 len2 q2) := kept hb (by first | assumption | (apply kDrew; assumption)); have m5 : wz.cell? ⟨g4, 2, none⟩ = some (.int .u32 0) := kept hb (by first | assumption | (apply kDrew; assumption)))) | (go_at_call_of 13 (Value.agg #[.nilIface, .slice p2 len2 q2, .int .u32 0]); (refine (P21.out _ (by first | assumption | exact Below.drew (by assumption) | exact Below.refl _ _ | exact (Below.refl _ _).drew)).mono ?_; rintro e wz ⟨rfl, hb⟩; have HH := bel2 (by first | assumption | exact Below.drew (by assumption) | exact Below.refl _ _ | exact (Below.refl _ _).drew : Below W.heap.size W _) hb; have m0 : wz.cell? ⟨g3, 0, none⟩ = some (.iface t1 u1) := kept hb (by first | assumption | (apply kDrew; assumption)); have m1 : wz.cell? ⟨g3, 1, none⟩ = some (.slice p0 len0 q0) := kept hb (by first | assumption | (apply kDrew; assumption)); have m2 : wz.cell? ⟨g3, 2, none⟩ = some (.int .u32 0) := kept hb (by first | assumption | (apply kDrew; assumption)); have m3 : wz.cell? ⟨g4, 0, none⟩ = some (.nilIface) := kept hb (by first | assumption | (apply kDrew; assumption)); have m4 : wz.cell? ⟨g4, 1, none⟩ = some (.slice p2 len2 q2) := kept hb (by first | assumption | (apply kDrew; assumption)); have m5 : wz.cell? ⟨g4, 2, none⟩ = some (.int .u32 0) := kept hb (by first | assumption | (apply kDrew; assumption)))))
      all_goals
        go_wp2_with fail
        go_ret
        exact ⟨ret_bool (by simp), bel2 B7.out (by first | assumption | exact Below.drew (by assumption))⟩
    · go_wp2_with fail
      have hA := ba w4 (.cells #[.iface t2 u2, .slice p2 len2 q2, .int .u32 0] 32)
      obtain ⟨W0, hW0⟩ : ∃ W, W = w4.alloc (.cells #[.iface t2 u2, .slice p2 len2 q2, .int .u32 0] 32) := ⟨_, rfl⟩
      have n0 : W0.cell? ⟨g3, 0, none⟩ = some (.iface t1 u1) := by rw [hW0]; exact kAlloc c0
      have n1 : W0.cell? ⟨g3, 1, none⟩ = some (.slice p0 len0 q0) := by rw [hW0]; exact kAlloc c1
      have n2 : W0.cell? ⟨g3, 2, none⟩ = some (.int .u32 0) := by rw [hW0]; exact kAlloc c2
      have n3 : W0.cell? ⟨w4.heap.size, 0, none⟩ = some (.iface t2 u2) := by rw [hW0]; go_simp
      have n4 : W0.cell? ⟨w4.heap.size, 1, none⟩ = some (.slice p2 len2 q2) := by rw [hW0]; go_simp
      have n5 : W0.cell? ⟨w4.heap.size, 2, none⟩ = some (.int .u32 0) := by rw [hW0]; go_simp
      rw [← hW0] at hA ⊢
      have X1 := Lib.hid (V1d.out.below hA)
      have X2 := Lib.hid (V2.out.below hA)
      have Y1 := Lib.hid (R0d.out.below hA)
      have Y2 := Lib.hid (R2d.out.below hA)
      have B5 := Lib.hid (bel2 B4.out hA)
      obtain ⟨g4', hg4⟩ : ∃ g, g = w4.heap.size := ⟨_, rfl⟩
      rw [← hg4] at n3 n4 n5 ⊢
      clear hA hW0 hg4 c0 c1 c2 g4 B4 R0d R2d V1d V2
      have J11 := Lib.hid (show ∀ W', Below W0.heap.size W0 W' → Calls Try.prog 13 #[.agg #[.iface t1 u1, .slice p0 len0 q0, .int .u32 0], .agg #[.iface t1 u1, .slice p0 len0 q0, .int .u32 0]] W' (Det true W') from fun W' hW' => zdet true k1 k1 len0 len0 q0 q0 p0 p0 _ _ 0 0 z0 z0 W' ⟨fun _ => ⟨⟨rfl, fun _ _ => rfl⟩, rfl⟩, fun _ => rfl⟩ (X1.out.below hW') (X1.out.below hW') (Y1.out.below hW') (Y1.out.below hW') (by omega) (by omega))
      have J22 := Lib.hid (show ∀ W', Below W0.heap.size W0 W' → Calls Try.prog 13 #[.agg #[.iface t2 u2, .slice p2 len2 q2, .int .u32 0], .agg #[.iface t2 u2, .slice p2 len2 q2, .int .u32 0]] W' (Det true W') from fun W' hW' => zdet true k2 k2 len2 len2 q2 q2 p2 p2 _ _ 0 0 z2 z2 W' ⟨fun _ => ⟨⟨rfl, fun _ _ => rfl⟩, rfl⟩, fun _ => rfl⟩ (X2.out.below hW') (X2.out.below hW') (Y2.out.below hW') (Y2.out.below hW') (by omega) (by omega))
      obtain ⟨g, hg⟩ : ∃ g : Bool, g = true ↔ StrEq len0 len2 z0 z2 ∧ k1 = k2 := by
        by_cases h : StrEq len0 len2 z0 z2 ∧ k1 = k2
        · exact ⟨true, by simp [h]⟩
        · exact ⟨false, by simp [h]⟩
      have J12 := Lib.hid (show ∀ W', Below W0.heap.size W0 W' → Calls Try.prog 13 #[.agg #[.iface t1 u1, .slice p0 len0 q0, .int .u32 0], .agg #[.iface t2 u2, .slice p2 len2 q2, .int .u32 0]] W' (Det g W') from fun W' hW' => zdet g k1 k2 len0 len2 q0 q2 p0 p2 _ _ 0 0 z0 z2 W' hg (X1.out.below hW') (X2.out.below hW') (Y1.out.below hW') (Y2.out.below hW') (by omega) (by omega))
      have J21 := Lib.hid (show ∀ W', Below W0.heap.size W0 W' → Calls Try.prog 13 #[.agg #[.iface t2 u2, .slice p2 len2 q2, .int .u32 0], .agg #[.iface t1 u1, .slice p0 len0 q0, .int .u32 0]] W' (Det g W') from fun W' hW' => zdet g k2 k1 len2 len0 q2 q0 p2 p0 _ _ 0 0 z2 z0 W' (by rw [hg, streq_comm]; exact ⟨fun h => ⟨h.1, h.2.symm⟩, fun h => ⟨h.1, h.2.symm⟩⟩) (X2.out.below hW') (X1.out.below hW') (Y2.out.below hW') (Y1.out.below hW') (by omega) (by omega))
      clear hg X1 X2 Y1 Y2 K1 K2
      go_wp2_with fail
      refine (J11.out W0 (Below.refl _ _)).mono ?_
      rintro e w5 ⟨rfl, hb5⟩
      have o0 := kept hb5 n0
      have o1 := kept hb5 n1
      have o2 := kept hb5 n2
      have o3 := kept hb5 n3
      have o4 := kept hb5 n4
      have o5 := kept hb5 n5
      go_wp2_with fail
      refine (J22.out w5 hb5).mono ?_
      rintro e W ⟨rfl, hb6⟩
      have n0 := kept hb6 o0
      have n1 := kept hb6 o1
      have n2 := kept hb6 o2
      have n3 := kept hb6 o3
      have n4 := kept hb6 o4
      have n5 := kept hb6 o5
      have B7 := Lib.hid (bel2 (bel2 B5.out hb5) hb6)
      have HB := bel2 hb5 hb6
      have P12 := Lib.hid (show ∀ W', Below W.heap.size W W' → Calls Try.prog 13 #[.agg #[.iface t1 u1, .slice p0 len0 q0, .int .u32 0], .agg #[.iface t2 u2, .slice p2 len2 q2, .int .u32 0]] W' (Det g W') from fun W' hW' => J12.out W' (bel2 HB hW'))
      have P21 := Lib.hid (show ∀ W', Below W.heap.size W W' → Calls Try.prog 13 #[.agg #[.iface t2 u2, .slice p2 len2 q2, .int .u32 0], .agg #[.iface t1 u1, .slice p0 len0 q0, .int .u32 0]] W' (Det g W') from fun W' hW' => J21.out W' (bel2 HB hW'))
      clear hb5 hb6 B5 HB J11 J22 J12 J21 o0 o1 o2 o3 o4 o5
      obtain ⟨g4, rfl⟩ : ∃ g, g = g4' := ⟨_, rfl⟩
      go_wp2_with fail
      go_region_held3 (fun w' => w'.cell? ⟨g3, 0, none⟩ = some (.iface t1 u1) ∧ w'.cell? ⟨g3, 1, none⟩ = some (.slice p0 len0 q0) ∧ w'.cell? ⟨g3, 2, none⟩ = some (.int .u32 0) ∧ w'.cell? ⟨g4, 0, none⟩ = some (.iface t2 u2) ∧ w'.cell? ⟨g4, 1, none⟩ = some (.slice p2 len2 q2) ∧ w'.cell? ⟨g4, 2, none⟩ = some (.int .u32 0)) (repeat' (first | (refine And.intro ?_ ?_) | assumption | apply kAlloc | apply kDrew | (refine kSet ?_ (by omega)))) (first | (go_at_call_of 13 (Value.agg #[.iface t1 u1, .slice p0 len0 q0, .int .u32 0]); (refine (P12.out _ (by first | assumption | exact Below.drew (by assumption) | exact Below.refl _ _ | exact (Below.refl _ _).drew)).mono ?_; rintro e wz ⟨rfl, hb⟩; have HH := bel2 (by first | assumption | exact Below.drew (by assumption) | exact Below.refl _ _ | exact (Below.refl _ _).drew : Below W.heap.size W _) hb; have m0 : wz.cell? ⟨g3, 0, none⟩ = some (.iface t1 u1) := kept hb (by first | assumption | (apply kDrew; assumption)); have m1 : wz.cell? ⟨g3, 1, none⟩ = some (.slice p0 len0 q0) := kept hb (by first | assumption | (apply kDrew; assumption)); have m2 : wz.cell? ⟨g3, 2, none⟩ = some (.int .u32 0) := kept hb (by first | assumption | (apply kDrew; assumption)); have m3 : wz.cell? ⟨g4, 0, none⟩ = some (.iface t2 u2) := kept hb (by first | assumption | (apply kDrew; assumption)); have m4 : wz.cell? ⟨g4, 1, none⟩ = some (.slice p2 len2 q2) := kept hb (by first | assumption | (apply kDrew; assumption)); have m5 : wz.cell? ⟨g4, 2, none⟩ = some (.int .u32 0) := kept hb (by first | assumption | (apply kDrew; assumption)))) | (go_at_call_of 13 (Value.agg #[.iface t2 u2, .slice p2 len2 q2, .int .u32 0]); (refine (P21.out _ (by first | assumption | exact Below.drew (by assumption) | exact Below.refl _ _ | exact (Below.refl _ _).drew)).mono ?_; rintro e wz ⟨rfl, hb⟩; have HH := bel2 (by first | assumption | exact Below.drew (by assumption) | exact Below.refl _ _ | exact (Below.refl _ _).drew : Below W.heap.size W _) hb; have m0 : wz.cell? ⟨g3, 0, none⟩ = some (.iface t1 u1) := kept hb (by first | assumption | (apply kDrew; assumption)); have m1 : wz.cell? ⟨g3, 1, none⟩ = some (.slice p0 len0 q0) := kept hb (by first | assumption | (apply kDrew; assumption)); have m2 : wz.cell? ⟨g3, 2, none⟩ = some (.int .u32 0) := kept hb (by first | assumption | (apply kDrew; assumption)); have m3 : wz.cell? ⟨g4, 0, none⟩ = some (.iface t2 u2) := kept hb (by first | assumption | (apply kDrew; assumption)); have m4 : wz.cell? ⟨g4, 1, none⟩ = some (.slice p2 len2 q2) := kept hb (by first | assumption | (apply kDrew; assumption)); have m5 : wz.cell? ⟨g4, 2, none⟩ = some (.int .u32 0) := kept hb (by first | assumption | (apply kDrew; assumption)))))
      all_goals
        go_wp2_with fail
        go_ret
        exact ⟨ret_bool (by simp), bel2 B7.out (by first | assumption | exact Below.drew (by assumption))⟩
end Go.Proofs.Ytcbbnkccfbgahaa.fnJsxExprsEqualSymmetricReflexive
