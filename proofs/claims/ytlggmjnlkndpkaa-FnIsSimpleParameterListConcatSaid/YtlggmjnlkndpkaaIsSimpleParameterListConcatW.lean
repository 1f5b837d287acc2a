/- Proved here: the walk of the law FnIsSimpleParameterListConcat, for every input. -/
import Derived.Test.YtlggmjnlkndpkaaSPB
import Derived.WalkKit
import Derived.WalkSpells
import Derived.WalkLawsBesides
import Derived.Lib.Hide
import Derived.Lib.SliceRun
import Derived.Deep.RegionWith
import Derived.OwnWalk
namespace Go.Proofs.Ytlggmjnlkndpkaa.fnIsSimpleParameterListConcat
open Go.RowKit
set_option linter.unusedSimpArgs false
set_option linter.unusedVariables false

theorem args_of {w : World} {B n : Nat} {cs : Array Value} {idf dff : Nat → Bool} (h : At w B 97 cs) (hA : ∀ j, j < n → ArgC cs j (idf j) (dff j)) : Args w (some ⟨B, 0, none⟩) n idf dff := fun _ => by
  refine ⟨B, 0, rfl, fun i hi => ?_⟩
  obtain ⟨t, v, l, d, l2, g1, g2, g3, g4, h0, h1, h2, h3, h4, h5⟩ := hA i hi
  have e : 0 + i * 6 = i * 6 := by omega
  exact ⟨t, v, l, d, l2, g1, g2, g3, g4, by rw [h.cell, e]; exact h0, by rw [h.cell, e]; exact h1, by rw [h.cell, e]; exact h2, by rw [h.cell, e]; exact h3, by rw [h.cell, e]; exact h4, by rw [h.cell, e]; exact h5⟩
theorem one_cell {cs : Array Value} {n : Nat} {idf dff : Nat → Bool} (hs : cs.size = n * 6) (hA : ∀ j, j < n → ArgC cs j (idf j) (dff j)) : ∀ u ∈ cs.toList, u.oneCell' = true := by
  intro u hu
  obtain ⟨p, hp, rfl⟩ := List.getElem_of_mem hu
  have hp' : p < n * 6 := by rw [← hs]; simpa using hp
  obtain ⟨t, v, l, d, l2, g1, g2, g3, g4, h0, h1, h2, h3, h4, h5⟩ := hA (p / 6) (by omega)
  have key : ∀ (q : Nat) (x : Value), cs[q]? = some x → p = q → cs.toList[p] = x := by
    intro q x hx e
    subst e
    have := Array.getElem?_eq_some_iff.1 hx
    obtain ⟨_, h⟩ := this
    simpa using h
  have hr : p % 6 = 0 ∨ p % 6 = 1 ∨ p % 6 = 2 ∨ p % 6 = 3 ∨ p % 6 = 4 ∨ p % 6 = 5 := by omega
  rcases hr with hr | hr | hr | hr | hr | hr
  · rw [key _ _ h0 (by omega)]; rfl
  · rw [key _ _ h1 (by omega)]; rfl
  · rw [key _ _ h2 (by omega)]
    cases hd : dff (p / 6)
    · rw [g3 hd]; rfl
    · obtain ⟨t', v', e⟩ := g4 hd; rw [e]; rfl
  · rw [key _ _ h3 (by omega)]; rfl
  · rw [key _ _ h4 (by omega)]; rfl
  · rw [key _ _ h5 (by omega)]; rfl
def jn {α : Type} (n : Nat) (f g : Nat → α) (i : Nat) : α := if i < n then f i else g (i - n)
theorem ArgC.left {cs ds : Array Value} {i n : Nat} {id df : Bool} (h : ArgC cs i id df) (hs : cs.size = n * 6) (hi : i < n) : ArgC (cs ++ ds) i id df := by
  obtain ⟨t, v, l, d, l2, g1, g2, g3, g4, h0, h1, h2, h3, h4, h5⟩ := h
  have k : ∀ (q : Nat) (x : Value), q < cs.size → cs[q]? = some x → (cs ++ ds)[q]? = some x := fun q x hq hx => by rw [Array.getElem?_append_left hq]; exact hx
  exact ⟨t, v, l, d, l2, g1, g2, g3, g4, k _ _ (by omega) h0, k _ _ (by omega) h1, k _ _ (by omega) h2, k _ _ (by omega) h3, k _ _ (by omega) h4, k _ _ (by omega) h5⟩
theorem ArgC.right {cs ds : Array Value} {i n : Nat} {id df : Bool} (h : ArgC ds (i - n) id df) (hs : cs.size = n * 6) (hi : n ≤ i) : ArgC (cs ++ ds) i id df := by
  obtain ⟨t, v, l, d, l2, g1, g2, g3, g4, h0, h1, h2, h3, h4, h5⟩ := h
  have k : ∀ (q p : Nat) (x : Value), p = q + cs.size → ds[q]? = some x → (cs ++ ds)[p]? = some x := fun q p x hq hx => by subst hq; rw [Array.getElem?_append_right (by omega), Nat.add_sub_cancel]; exact hx
  exact ⟨t, v, l, d, l2, g1, g2, g3, g4, k _ _ _ (by omega) h0, k _ _ _ (by omega) h1, k _ _ _ (by omega) h2, k _ _ _ (by omega) h3, k _ _ _ (by omega) h4, k _ _ _ (by omega) h5⟩
theorem args_both {w : World} {g n m cap base : Nat} {cs ds : Array Value} {i1 d1 i2 d2 : Nat → Bool} (hown : w.ownsRow base 97 6 (.slice (some ⟨g, 0, none⟩) (n + m) cap) (n + m) (cs.toList ++ ds.toList)) (hs : cs.size = n * 6) (hA : ∀ j, j < n → ArgC cs j (i1 j) (d1 j)) (hB : ∀ j, j < m → ArgC ds j (i2 j) (d2 j)) :
    Args w (some ⟨g, 0, none⟩) (n + m) (jn n i1 i2) (jn n d1 d2) := fun _ => by
  refine ⟨g, 0, rfl, fun i hi => ?_⟩
  have hC : ArgC (cs ++ ds) i (jn n i1 i2 i) (jn n d1 d2 i) := by
    unfold jn
    by_cases c : i < n
    · rw [if_pos c, if_pos c]; exact ArgC.left (hA i c) hs c
    · rw [if_neg c, if_neg c]; exact ArgC.right (hB (i - n) (by omega)) hs (by omega)
  obtain ⟨t, v, l, d, l2, g1, g2, g3, g4, h0, h1, h2, h3, h4, h5⟩ := hC
  have key : ∀ (q p : Nat) (x : Value), p = q → (cs ++ ds)[q]? = some x → w.cell? ⟨g, p, none⟩ = some x := by
    intro q p x e hx
    subst e
    have := hown.cells (g := g) rfl p x (by rw [← Array.toList_append, Array.getElem?_toList]; exact hx)
    rwa [Addr.add_lit, Nat.zero_add] at this
  exact ⟨t, v, l, d, l2, g1, g2, g3, g4, key _ _ _ (by omega) h0, key _ _ _ (by omega) h1, key _ _ _ (by omega) h2, key _ _ _ (by omega) h3, key _ _ _ (by omega) h4, key _ _ _ (by omega) h5⟩
theorem simple_join {n m : Nat} {i1 d1 i2 d2 : Nat → Bool} : Simple (n + m) (jn n i1 i2) (jn n d1 d2) ↔ Simple n i1 d1 ∧ Simple m i2 d2 := by
  constructor
  · intro h
    refine ⟨fun i hi => ?_, fun i hi => ?_⟩
    · have := h i (by omega); simpa [jn, hi] using this
    · have := h (n + i) (by omega); simpa [jn, show ¬ n + i < n by omega] using this
  · rintro ⟨h1, h2⟩ i hi
    unfold jn
    by_cases c : i < n
    · rw [if_pos c, if_pos c]; exact h1 i c
    · rw [if_neg c, if_neg c]; exact h2 (i - n) (by omega)
theorem same_answer {ga gb gab : Bool} {n m : Nat} {i1 d1 i2 d2 : Nat → Bool} (ha : ga = true ↔ Simple n i1 d1) (hb : gb = true ↔ Simple m i2 d2) (hab : gab = true ↔ Simple (n + m) (jn n i1 i2) (jn n d1 d2)) : gab = (ga && gb) := by
  refine Bool.eq_iff_iff.2 ?_
  rw [Bool.and_eq_true, ha, hb, hab, simple_join]
theorem IsBools.below {w w1 : World} {a : Option Addr} {len cap : Nat} {zs : List Bool} (h : IsBools w a len cap zs) (hb : Below w.heap.size w w1) : IsBools w1 a len cap zs := by
  rcases h with h | ⟨x, e1, e2, e3, e4, hc⟩
  · exact .inl h
  · refine .inr ⟨x, e1, e2, e3, e4, fun i hi => ?_⟩
    have := hc i hi
    obtain ⟨b, off, rfl⟩ := spot_none (hc 0 (by omega))
    rw [add_none] at this ⊢
    exact kept hb this
theorem IsRow.below {k : IntKind} {w w1 : World} {a : Option Addr} {len cap : Nat} {zs : List Int} (h : IsRow k w a len cap zs) (hb : Below w.heap.size w w1) : IsRow k w1 a len cap zs := by
  rcases h with h | ⟨x, e1, e2, e3, e4, hc, hw⟩
  · exact .inl h
  · refine .inr ⟨x, e1, e2, e3, e4, fun i hi => ?_, hw⟩
    have := hc i hi
    obtain ⟨b, off, rfl⟩ := spot_none (hc 0 (by omega))
    rw [add_none] at this ⊢
    exact kept hb this
set_option maxRecDepth 100000 in
theorem bytes_yes (a : Option Addr) (n cap : Nat) (a2 : Option Addr) (m cap2 : Nat) (a3 : Option Addr) (n3 cap3 : Nat) (a4 : Option Addr) (n4 cap4 : Nat) (w : World) (h1 : n ≤ 262144) (h2 : m ≤ 262144) (h3 : n3 ≤ 262144) (h4 : n4 ≤ 262144) :
    Calls Try.prog 23 #[.slice a n cap, .slice a2 m cap2, .slice a3 n3 cap3, .slice a4 n4 cap4] w fun e w' => e = .returned (.bool true) ∧ w = w' := by
  go_enter Try.func23, Try.ntmps23
  go_wp2_with fail
  go_ret
  exact ⟨rfl, rfl⟩
def SomeBool (w : World) (e : Ending) (w' : World) : Prop := ∃ b, e = .returned (.bool b) ∧ w = w'
set_option maxRecDepth 100000 in
theorem bytes_some (a : Option Addr) (n cap : Nat) (a2 : Option Addr) (m cap2 : Nat) (a3 : Option Addr) (n3 cap3 : Nat) (a4 : Option Addr) (n4 cap4 : Nat) (w : World) (h1 : n ≤ 9223372036854775807) (h2 : m ≤ 9223372036854775807) (h3 : n3 ≤ 9223372036854775807) (h4 : n4 ≤ 9223372036854775807) :
    Calls Try.prog 23 #[.slice a n cap, .slice a2 m cap2, .slice a3 n3 cap3, .slice a4 n4 cap4] w (SomeBool w) := by
  go_enter Try.func23, Try.ntmps23
  go_wp2
  all_goals
    go_ret
    exact ⟨_, rfl, rfl⟩
set_option maxRecDepth 100000 in
set_option maxHeartbeats 1000000 in
theorem early (a : Option Addr) (n cap : Nat) (a2 : Option Addr) (m cap2 : Nat) (a3 : Option Addr) (n3 cap3 : Nat) (a4 : Option Addr) (n4 cap4 : Nat) (w : World) (h1 : n ≤ maxLen) (h2 : m ≤ maxLen) (h3 : n3 ≤ maxLen) (h4 : n4 ≤ maxLen) (h : 262144 < n ∨ 262144 < m ∨ 262144 < n3 ∨ 262144 < n4) :
    Calls Try.prog 6 #[.slice a n cap, .slice a2 m cap2, .slice a3 n3 cap3, .slice a4 n4 cap4] w fun e w' => e = .returned (.bool true) ∧ Below w.heap.size w w' := by
  unfold maxLen at h1 h2 h3 h4
  have g : (262144 < n) ∨ (¬ 262144 < n ∧ 262144 < m) ∨ (¬ 262144 < n ∧ ¬ 262144 < m ∧ 262144 < n3) ∨ (¬ 262144 < n ∧ ¬ 262144 < m ∧ ¬ 262144 < n3 ∧ 262144 < n4) := by omega
  clear h
  rcases g with g | ⟨f1, g⟩ | ⟨f1, f2, g⟩ | ⟨f1, f2, f3, g⟩
  all_goals
    go_enter Try.func6, Try.ntmps6
    go_wp2_with fail
    refine (bytes_some _ _ _ _ _ _ _ _ _ _ _ _ _ h1 h2 h3 h4).mono ?_
    rintro e w' ⟨b, rfl, rfl⟩
    cases b
    all_goals
      go_wp2_with fail
      go_ret
      exact ⟨rfl, Below.refl _ _⟩
set_option maxRecDepth 100000 in
set_option maxHeartbeats 2000000 in
theorem walk (a0 : Option Addr) (len0 cap0 : Nat) (z0 : List Int) (a1 : Option Addr) (len1 cap1 : Nat) (z1 : List Bool) (a2 : Option Addr) (len2 cap2 : Nat) (z2 : List Int) (a3 : Option Addr) (len3 cap3 : Nat) (z3 : List Bool) (w : World) (w0 : IsRow .u8 w a0 len0 cap0 z0) (w1 : IsBools w a1 len1 cap1 z1) (w2 : IsRow .u8 w a2 len2 cap2 z2) (w3 : IsBools w a3 len3 cap3 z3) :
    Calls Try.prog 6 #[.slice a0 len0 cap0, .slice a1 len1 cap1, .slice a2 len2 cap2, .slice a3 len3 cap3] w fun e w' => e = .returned (.bool true) ∧ Below w.heap.size w w' := by
  obtain ⟨l0, l0', hwf⟩ := len_ints w0
  obtain ⟨l2, l2', hwf2⟩ := len_ints w2
  have l1 := len_bools w1
  have l3 := len_bools w3
  by_cases c : 262144 < len0 ∨ 262144 < len1 ∨ 262144 < len2 ∨ 262144 < len3
  · exact early a0 len0 cap0 a1 len1 cap1 a2 len2 cap2 a3 len3 cap3 w l0 l1 l2 l3 c
  have b0 : len0 ≤ 262144 := by omega
  have b1 : len1 ≤ 262144 := by omega
  have b2 : len2 ≤ 262144 := by omega
  have b3 : len3 ≤ 262144 := by omega
  have HZ := Lib.hid (show ∀ i, i < len0 → 0 ≤ z0.getD i 0 ∧ z0.getD i 0 ≤ 255 from fun i hi => wf_u8 ((hwf i).resolve_right (by omega)))
  have HZ2 := Lib.hid (show ∀ i, i < len2 → 0 ≤ z2.getD i 0 ∧ z2.getD i 0 ≤ 255 from fun i hi => wf_u8 ((hwf2 i).resolve_right (by omega)))
  have H0 := Lib.hid w0
  have H1 := Lib.hid w1
  have H2 := Lib.hid w2
  have H3 := Lib.hid w3
  clear w0 w1 w2 w3 c l0 l1 l2 l3 l0' l2' hwf hwf2
  obtain ⟨i0, hi, hz0, hz1, hz2⟩ := info_parts (P := Try.prog) (e := 97) (z := .agg #[.nilIface, .int .i32 0, .nilIface, .int .i32 0, .slice none 0 0, .bool false]) (size := 6) (bytes := 80) (by kernel_rfl)
  have HI := Lib.hid hi
  have HI0 := Lib.hid hz0
  have HI1 := Lib.hid hz1
  have HI2 := Lib.hid hz2
  clear hi hz0 hz1 hz2
  go_enter Try.func6, Try.ntmps6
  go_wp2_with (first | (go_at_call 23; refine (bytes_yes _ _ _ _ _ _ _ _ _ _ _ _ _ b0 b1 b2 b3).mono ?_; rintro e w' ⟨rfl, rfl⟩))
  refine (cpU8_any a0 len0 cap0 z0 w H0.out (by omega)).mono ?_
  rintro e w1 ⟨x0, y0, rfl, r0, hb1⟩
  have R0 := Lib.hid r0
  have J1 := Lib.hid (IsBools.below H1.out hb1)
  have J2 := Lib.hid (IsRow.below H2.out hb1)
  have J3 := Lib.hid (IsBools.below H3.out hb1)
  clear r0 H0 H1 H2 H3
  go_wp2_with fail
  refine (cpB_any a1 len1 cap1 z1 w1 J1.out (by omega)).mono ?_
  rintro e w2 ⟨x1, y1, rfl, r1, hb2⟩
  have R0a := Lib.hid (R0.out.below hb2)
  have R1 := Lib.hid r1
  have K2 := Lib.hid (IsRow.below J2.out hb2)
  have K3 := Lib.hid (IsBools.below J3.out hb2)
  clear r1 J1 J2 J3 R0
  go_wp2_with fail
  refine (cpU8_any a2 len2 cap2 z2 w2 K2.out (by omega)).mono ?_
  rintro e w3 ⟨x2, y2, rfl, r2, hb3⟩
  have R0b := Lib.hid (R0a.out.below hb3)
  have R1b := Lib.hid (R1.out.below hb3)
  have R2 := Lib.hid r2
  have L3 := Lib.hid (IsBools.below K3.out hb3)
  clear r2 K2 K3 R0a R1
  go_wp2_with fail
  refine (cpB_any a3 len3 cap3 z3 w3 L3.out (by omega)).mono ?_
  rintro e w4 ⟨x3, y3, rfl, r3, hb4⟩
  have R0c := Lib.hid (R0b.out.below hb4)
  have R1c := Lib.hid (R1b.out.below hb4)
  have R2c := Lib.hid (R2.out.below hb4)
  have R3 := Lib.hid r3
  clear r3 L3 R0b R1b R2
  have B4 := Lib.hid (bel2 (bel2 (bel2 hb1 hb2) hb3) hb4)
  clear hb1 hb2 hb3 hb4
  go_wp2_with fail
  refine (build_any _ _ _ z0 _ _ _ z1 w4 R0c.out R1c.out HZ.out (by omega) (by omega)).mono ?_
  rintro e w5 ⟨cs, rfl, hat, hsz, hA, hb5⟩
  have AT := Lib.hid hat
  have SZ := Lib.hid hsz
  have HA := Lib.hid hA
  have B5 := Lib.hid (bel2 B4.out hb5)
  have R2d := Lib.hid (R2c.out.below hb5)
  have R3d := Lib.hid (R3.out.below hb5)
  clear hat hsz hA hb5 R0c R1c R2c R3 B4 HZ
  obtain ⟨g5, hg5⟩ : ∃ g, g = w4.heap.size := ⟨_, rfl⟩
  rw [← hg5] at AT ⊢
  clear hg5
  go_wp2_with fail
  refine (build_any _ _ _ z2 _ _ _ z3 w5 R2d.out R3d.out HZ2.out (by omega) (by omega)).mono ?_
  rintro e w6 ⟨ds, rfl, hat, hsz, hA, hb6⟩
  have AT2 := Lib.hid hat
  have SZ2 := Lib.hid hsz
  have HA2 := Lib.hid hA
  have B6 := Lib.hid (bel2 B5.out hb6)
  have AT1 := Lib.hid (AT.out.below hb6 AT.out.lt)
  clear hat hsz hA hb6 R2d R3d B5 HZ2 AT
  obtain ⟨g6, hg6⟩ : ∃ g, g = w5.heap.size := ⟨_, rfl⟩
  rw [← hg6] at AT2 ⊢
  clear hg6
  go_wp2_with (with_reducible refine wpList_make_own _ (o := ⟨some 58, _, _, _, _, _⟩) rfl _ _ 39 rfl w6.heap.size 97 i0 (.agg #[.nilIface, .int .i32 0, .nilIface, .int .i32 0, .slice none 0 0, .bool false]) 6 Try.underlying39 HI.out HI0.out HI1.out .i64 .i64 _ (len0 + len2) rfl rfl ?e1 ?e2 ?e3 (Nat.le_refl _) ?_)
  case e1 => go_num
  case e2 => rw [HI2.out]; omega
  case e3 => unfold maxLen; omega
  intro w7 hown hgr
  have OWN := Lib.hid hown
  have BL := Lib.hid (Below.grown (Below.refl w6.heap.size w6) hgr (Nat.le_refl _) (fun k hk => by cases hk))
  have B7 := Lib.hid (bel2 B6.out BL.out)
  have AA := Lib.hid (AT1.out.below BL.out AT1.out.lt)
  have AB := Lib.hid (AT2.out.below BL.out AT2.out.lt)
  have G5 := Lib.hid AT1.out.lt
  have G6 := Lib.hid AT2.out.lt
  have B6S := Lib.hid B6.out.size
  clear hown hgr B6 AT1 AT2 BL
  obtain ⟨g7, hg7⟩ : ∃ g, g = w6.heap.size := ⟨_, rfl⟩
  rw [← hg7] at OWN G5 G6 ⊢
  have HG7 := Lib.hid hg7
  clear hg7
  go_wp2_with (with_reducible refine wpList_append_fits _ (o := ⟨some 61, _, _, _, _, _⟩) rfl _ _ 39 rfl g7 97 i0 6 Try.underlying39 HI.out HI1.out g7 0 (len0 + len2) [] rfl OWN.out ⟨g5, 0, none⟩ len0 len0 cs.toList rfl ?e1 ?e2 ?e3 ?e4 ?_)
  case e1 => simpa using SZ.out
  case e2 =>
    intro j u hj
    rw [Addr.add_lit, Nat.zero_add, AA.out.cell]
    simpa using hj
  case e3 => exact one_cell SZ.out HA.out
  case e4 => omega
  intro w8 hown hgr
  try simp only [Nat.zero_add, List.nil_append] at hown
  try simp only [Nat.zero_add]
  have gz : Hid (g7 < w7.heap.size) := by
    obtain ⟨_, h | ⟨g, cap, cur, e, _, hg, _⟩⟩ := OWN.out
    · cases h.1
    · cases e
      refine Lib.hid ?_
      rcases Nat.lt_or_ge g7 w7.heap.size with h1 | h1
      · exact h1
      · rw [Array.getElem?_eq_none h1] at hg; cases hg
  have BL := Lib.hid (Below.grown (Below.refl g7 w7) hgr (Nat.le_of_lt gz.out) (fun k hk => by cases hk; exact Nat.le_refl _))
  have B8 := Lib.hid (show Below w.heap.size w w8 from B7.out.trans (BL.out.mono (by have := HG7.out; have := B6S.out; omega)))
  have AA2 := Lib.hid (AA.out.below BL.out G5.out)
  have AB2 := Lib.hid (AB.out.below BL.out G6.out)
  have OWN2 := Lib.hid hown
  have gz8 : Hid (g7 < w8.heap.size) := Lib.hid (Nat.lt_of_lt_of_le gz.out BL.out.size)
  clear hown hgr AA AB BL OWN B7 gz
  go_wp2_with (with_reducible refine wpList_append_fits _ (o := ⟨some 64, _, _, _, _, _⟩) rfl _ _ 39 rfl g7 97 i0 6 Try.underlying39 HI.out HI1.out g7 len0 (len0 + len2) cs.toList rfl OWN2.out ⟨g6, 0, none⟩ len2 len2 ds.toList rfl ?e1 ?e2 ?e3 ?e4 ?_)
  case e1 => simpa using SZ2.out
  case e2 =>
    intro j u hj
    rw [Addr.add_lit, Nat.zero_add, AB2.out.cell]
    simpa using hj
  case e3 => exact one_cell SZ2.out HA2.out
  case e4 => omega
  intro w9 hown hgr
  have BL := Lib.hid (Below.grown (Below.refl g7 w8) hgr (Nat.le_of_lt gz8.out) (fun k hk => by cases hk; exact Nat.le_refl _))
  have B9 := Lib.hid (show Below w.heap.size w w9 from B8.out.trans (BL.out.mono (by have := HG7.out; have := B6S.out; omega)))
  have A1 := Lib.hid (args_of (AA2.out.below BL.out G5.out) HA.out)
  have A2 := Lib.hid (args_of (AB2.out.below BL.out G6.out) HA2.out)
  have A3 := Lib.hid (args_both hown SZ.out HA.out HA2.out)
  clear hown hgr BL B8 AA2 AB2 OWN2 gz8 HI HI0 HI1 HI2 SZ SZ2 HA HA2 G5 G6 HG7 B6S
  go_wp2_with fail
  refine (simple_any _ _ _ false _ _ w9 A1.out (by omega)).mono ?_
  rintro e wa ⟨ga, rfl, ha, hba⟩
  have HGA := Lib.hid ha
  have A2' := Lib.hid (A2.out.below hba)
  have A3' := Lib.hid (A3.out.below hba)
  have BA := Lib.hid (bel2 B9.out hba)
  clear ha hba A1 A2 A3 B9
  go_wp2_with fail
  refine (simple_any _ _ _ false _ _ wa A2'.out (by omega)).mono ?_
  rintro e wb ⟨gb, rfl, hb, hbb⟩
  have HGB := Lib.hid hb
  have A3'' := Lib.hid (A3'.out.below hbb)
  have BB := Lib.hid (bel2 BA.out hbb)
  clear hb hbb A2' A3' BA
  go_wp2_with fail
  refine (simple_any _ _ _ false _ _ wb A3''.out (by omega)).mono ?_
  rintro e wc ⟨gab, rfl, hab, hbc⟩
  have HGAB := Lib.hid hab
  have BC := Lib.hid (bel2 BB.out hbc)
  clear hab hbc A3'' BB
  have EQ := Lib.hid (same_answer (HGA.out.trans (and_iff_right (by trivial))) (HGB.out.trans (and_iff_right (by trivial))) (HGAB.out.trans (and_iff_right (by trivial))))
  clear HGA HGB HGAB
  cases ga
  all_goals
    go_wp2_with fail
    go_ret
    exact ⟨ret_bool (by rw [EQ.out]; simp), BC.out⟩
end Go.Proofs.Ytlggmjnlkndpkaa.fnIsSimpleParameterListConcat
