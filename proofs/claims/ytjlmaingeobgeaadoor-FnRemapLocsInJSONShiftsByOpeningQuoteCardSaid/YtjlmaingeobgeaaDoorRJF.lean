/- Proved here: the contract of buildTree. Conditions as stated. -/
import Derived.Test.YtjlmaingeobgeaaDoorRJC
import Derived.WalkKit
import Derived.WalkSpells
import Derived.WalkLawsBesides
import Derived.Lib.Hide
import Derived.Lib.SliceRun
import Derived.Deep.RegionWith
import Derived.OwnWalk
import Derived.Laws.OwnMore
import Derived.BigRegion
import Derived.Carry
namespace Go.Proofs.YtjlmaingeobgeaaDoor
open Go.RowKit
set_option linter.unusedSimpArgs false
set_option linter.unusedVariables false

theorem At.grown {w w' : World} {row : Option Nat} {x : Nat} {T : TypeId} {cs : Array Value} (h : At w x T cs) (hg : w.grownBy w' row) (hne : row ≠ some x) : At w' x T cs := (hg.block x h.lt (fun e => hne e.symm)).trans h
theorem IT.grown {w w' : World} {xs : List Value} {k g : Nat} {zs : List Int} {cs : Array Value} (h : IT w xs k zs) (hat : At w g 35 cs) (hg : w.grownBy w' (some g)) : IT w' xs k zs := fun j hj => by
  obtain ⟨p, h1, h2, h3⟩ := h j hj
  exact ⟨p, h1, h2, h3.grown hg (fun e => atNe h3 hat (by decide) (Option.some.inj e).symm)⟩
theorem ownAt {w : World} {B g n : Nat} {e : TypeId} {sz c : Nat} {v : Value} {xs : List Value} (h : w.ownsRow B e sz v n xs) (hv : v = .slice (some ⟨g, 0, none⟩) n c) : ∃ cs, At w g e cs ∧ n ≤ c ∧ cs.size = c * sz ∧ cs.toList.take (n * sz) = xs := by
  obtain ⟨h0, ⟨h, _⟩ | ⟨g', cap, cur, h1, h2, h3, h4, h5, h6, h7⟩⟩ := h
  · rw [h] at hv; cases hv
  · rw [hv] at h1
    simp only [Value.slice.injEq, Option.some.injEq, Addr.mk.injEq] at h1
    obtain ⟨⟨rfl, _⟩, _, rfl⟩ := h1
    exact ⟨cur, h3, h4, h6, h7⟩
theorem ownAll {w : World} {B g n : Nat} {e : TypeId} {sz : Nat} {xs : List Value} (h : w.ownsRow B e sz (.slice (some ⟨g, 0, none⟩) n n) n xs) : At w g e xs.toArray := by
  obtain ⟨cs, h1, _, h3, h4⟩ := ownAt h rfl
  have : cs = xs.toArray := by
    apply Array.ext'
    rw [← h4, List.take_of_length_le (by simp [h3])]
  rw [← this]; exact h1
theorem pickC (a : Option Addr) (lb N k : Nat) (kc : Int) (zs : List Int) (w : World) (hkc : kc = (k : Int)) (hN : N ≤ 65536) (hk : k ≤ 100) (ha : 0 < N → a = some ⟨lb, 0, none⟩) (hc : ∀ j, j < N → w.cell? ⟨lb, j, none⟩ = some (il (zs.getD j 0))) :
    Calls Tryd.prog 62 #[.slice a N N, .int .i64 kc] w fun e w' => e = .returned (il (pickV zs N k)) ∧ w = w' := by
  subst hkc
  exact pick a lb N k zs w hN hk ha hc
theorem LL_0 (zs : List Int) (N : Nat) : LL zs N 0 = pickV zs N 0 := rfl
theorem LL_1 (zs : List Int) (N : Nat) : LL zs N 1 = pickV zs N 1 := rfl
theorem LL_2 (zs : List Int) (N : Nat) : LL zs N (N + 2) = pickV zs N 2 := by
  unfold LL; rw [if_neg (by omega), if_neg (by omega), if_neg (by omega), show N + 2 - N - 2 = 0 from by omega]; rfl
theorem LL_3 (zs : List Int) (N : Nat) : LL zs N (N + 3) = pickV zs N 3 := by
  unfold LL; rw [if_neg (by omega), if_neg (by omega), if_neg (by omega), show N + 3 - N - 2 = 1 from by omega]; rfl
theorem LL_4 (zs : List Int) (N : Nat) : LL zs N (N + 4) = pickV zs N 4 := by
  unfold LL; rw [if_neg (by omega), if_neg (by omega), if_neg (by omega), show N + 4 - N - 2 = 2 from by omega]; rfl
theorem LL_5 (zs : List Int) (N : Nat) : LL zs N (N + 5) = pickV zs N 7 := by
  unfold LL; rw [if_neg (by omega), if_neg (by omega), if_neg (by omega), show N + 5 - N - 2 = 3 from by omega]; rfl
theorem LL_6 (zs : List Int) (N : Nat) : LL zs N (N + 6) = pickV zs N 8 := by
  unfold LL; rw [if_neg (by omega), if_neg (by omega), if_neg (by omega), show N + 6 - N - 2 = 4 from by omega]; rfl
theorem LL_7 (zs : List Int) (N : Nat) : LL zs N (N + 7) = pickV zs N 5 := by
  unfold LL; rw [if_neg (by omega), if_neg (by omega), if_neg (by omega), show N + 7 - N - 2 = 5 from by omega]; rfl
theorem LL_8 (zs : List Int) (N : Nat) : LL zs N (N + 8) = pickV zs N 6 := by
  unfold LL; rw [if_neg (by omega), if_neg (by omega), if_neg (by omega), show N + 8 - N - 2 = 6 from by omega]; rfl
theorem LL_9 (zs : List Int) (N : Nat) : LL zs N (N + 9) = pickV zs N 9 := by
  unfold LL; rw [if_neg (by omega), if_neg (by omega), if_neg (by omega), show N + 9 - N - 2 = 7 from by omega]; rfl
theorem LL_10 (zs : List Int) (N : Nat) : LL zs N (N + 10) = pickV zs N 10 := by
  unfold LL; rw [if_neg (by omega), if_neg (by omega), if_neg (by omega), show N + 10 - N - 2 = 8 from by omega]; rfl
theorem LL_11 (zs : List Int) (N : Nat) : LL zs N (N + 11) = pickV zs N 11 := by
  unfold LL; rw [if_neg (by omega), if_neg (by omega), if_neg (by omega), show N + 11 - N - 2 = 9 from by omega]; rfl

theorem LL_item (zs : List Int) (N j : Nat) (h : j < N) : LL zs N (2 + j) = zs.getD j 0 := by
  unfold LL; rw [if_neg (by omega), if_neg (by omega), if_pos (by omega), show 2 + j - 2 = j from by omega]
theorem info35 : (Tryd.prog.info? 35).map (fun i => (i.zero, i.size, i.bytes)) = some (some (.agg #[.nilIface, .int .i32 0]), 2, 24) := by kernel_rfl
def BR (N : Nat) (zs : List Int) (w : World) (v i : Value) (wr : World) : Prop :=
  ∃ (k : Nat) (xs : List Value), i = .int .i64 k ∧ k ≤ N ∧ v = .slice (some ⟨w.heap.size + 1, 0, none⟩) k (N + 2) ∧ Hid (wr.ownsRow (w.heap.size + 1) 35 2 (.slice (some ⟨w.heap.size + 1, 0, none⟩) k (N + 2)) k xs) ∧ Hid (IT wr xs k zs) ∧ Hid (At wr w.heap.size 35 #[.nilIface, il 0]) ∧ Hid (Below w.heap.size w wr)

theorem TR.setFar {w : World} {D ra N : Nat} {L : Nat → Int} {ib cap eo pb ea ib2 ed es n5 n6 n11 : Nat} (h : TR w D ra N L ib cap eo pb ea ib2 ed es n5 n6 n11) {b o : Nat} (hb : b ≠ ra ∧ b ≠ ib ∧ b ≠ eo ∧ b ≠ pb ∧ b ≠ ea ∧ b ≠ ib2) {tb : TypeId} {csb : Array Value} (hat : At w b tb csb) (ht : tb = 35) (v : Value) : TR (w.setCell ⟨b, o, none⟩ v) D ra N L ib cap eo pb ea ib2 ed es n5 n6 n11 := by
  subst ht
  have far : ∀ {g : Nat} {t : TypeId} {cs : Array Value}, At w g t cs → t ≠ 35 → At (w.setCell ⟨b, o, none⟩ v) g t cs := fun h1 h2 => h1.far (atNe h1 hat h2) v
  obtain ⟨lo, ne, root, ⟨cs, r1, r2, r3⟩, capN, obj, prop, ⟨cse, str⟩, arr, row2, ⟨csd, d1, d2⟩, f5, f6, f11⟩ := h
  refine ⟨lo, ne, far root (by decide), ⟨cs, r1.far (fun e => hb.2.1 e.symm) v, fun j hj => ?_, r3⟩, capN, far obj (by decide), far prop (by decide), ⟨cse, far str.1 (by decide), str.2⟩, far arr (by decide), row2.far (fun e => hb.2.2.2.2.2 e.symm) v, ⟨csd, far d1 (by decide), d2⟩, far f5 (by decide), far f6 (by decide), far f11 (by decide)⟩
  obtain ⟨p, h1, h2, h3⟩ := r2 j hj
  exact ⟨p, h1, h2, far h3 (by decide)⟩
theorem TR.below {w w' : World} {D ra N : Nat} {L : Nat → Int} {ib cap eo pb ea ib2 ed es n5 n6 n11 : Nat} (h : TR w D ra N L ib cap eo pb ea ib2 ed es n5 n6 n11) (hb : Below w.heap.size w w') : TR w' D ra N L ib cap eo pb ea ib2 ed es n5 n6 n11 := by
  have far : ∀ {g : Nat} {t : TypeId} {cs : Array Value}, At w g t cs → At w' g t cs := fun h1 => h1.below hb h1.lt
  obtain ⟨lo, ne, root, ⟨cs, r1, r2, r3⟩, capN, obj, prop, ⟨cse, str⟩, arr, row2, ⟨csd, d1, d2⟩, f5, f6, f11⟩ := h
  refine ⟨lo, ne, far root, ⟨cs, far r1, fun j hj => ?_, r3⟩, capN, far obj, far prop, ⟨cse, far str.1, str.2⟩, far arr, far row2, ⟨csd, far d1, d2⟩, far f5, far f6, far f11⟩
  obtain ⟨p, h1, h2, h3⟩ := r2 j hj
  exact ⟨p, h1, h2, far h3⟩

set_option maxRecDepth 100000 in
set_option maxHeartbeats 16000000 in
theorem bTree (a : Option Addr) (lb N : Nat) (zs : List Int) (w : World) (hN : N ≤ 65536) (ha : 0 < N → a = some ⟨lb, 0, none⟩) (hc : ∀ j, j < N → w.cell? ⟨lb, j, none⟩ = some (il (zs.getD j 0))) :
    Calls Tryd.prog 37 #[.slice a N N] w (BT N zs w) := by
  have hN1 : (N : Int) ≤ 65536 := by omega
  have hN0 : (0 : Int) ≤ (N : Int) := Int.natCast_nonneg _
  have HA := Lib.hid ha
  have HC := Lib.hid hc
  clear ha hc
  obtain ⟨i0, hi0, hz0, hz1, hz2⟩ := info_parts info35
  have I0 := Lib.hid hi0
  have I1 := Lib.hid hz0
  have I2 := Lib.hid hz1
  have I3 := Lib.hid hz2
  clear hi0 hz0 hz1 hz2
  go_enter Tryd.func37, Tryd.ntmps37
  go_wp2_with (with_reducible refine wpList_make_own _ (o := ⟨some 9, _, _, _, _, _⟩) rfl _ _ 84 rfl (w.heap.size + 1) 35 i0 _ 2 Tryd.underlying84 I0.out I1.out I2.out .i64 .i64 _ (N + 2) rfl rfl ?e1 ?e2 ?e3 ?e4 ?_)
  case e1 => (try simp); (try omega)
  case e2 => rw [I3.out]; omega
  case e3 => unfold maxLen; omega
  case e4 => simp
  intro w1 hown1 hgr1
  have hz1 : (w.alloc (.cells #[.nilIface, il 0] 35)).heap.size = w.heap.size + 1 := by simp
  have HO1 := Lib.hid hown1
  have HR1 := Lib.hid (show At w1 w.heap.size 35 #[.nilIface, il 0] from (At.new w 35 _).grown hgr1 (by simp))
  have HB1 := Lib.hid (show Below w.heap.size w w1 from Below.grown ((Below.refl _ _).alloc (Nat.le_refl _) _) hgr1 (by simp) (fun k hk => by cases hk))
  have zg1 := (World.ownsRow.lt hown1 (w.heap.size + 1) rfl).2
  clear hown1 hgr1 hz1
  go_wp2_with fail
  go_loopw [3, 4] (fun v i wr => BR N zs w v i wr) (fun _ i _ => N - (intOf i).toNat)
  case atStart => exact ⟨0, [], rfl, Nat.zero_le _, rfl, HO1, Lib.hid (fun j hj => absurd hj (by omega)), HR1, HB1⟩
  case round =>
    obtain ⟨k, xs, rfl, hk, rfl, HO, HIT, HR, HB⟩ := hrel
    clear HO1 HR1 HB1
    have zr := (World.ownsRow.lt HO.out (w.heap.size + 1) rfl).2
    by_cases hlt : k < N
    · have cl := kept HB.out (HC.out k hlt)
      obtain rfl := HA.out (by omega)
      have llb := World.block_lt_of_cell? _ _ cl
      obtain ⟨z, hz⟩ : ∃ z, z = zs.getD k 0 := ⟨_, rfl⟩
      rw [← hz] at cl
      have HZ := Lib.hid hz
      clear hz
      go_wp2_with fail
      refine (zNum z (FloatKind.f64.nearest (k : Int)) wr).mono ?_
      rintro e w2 ⟨p, rfl, hp, hlp, hb⟩
      have HP := Lib.hid hp
      have HOb := Lib.hid (ownBelow HO.out hb)
      have HITb := Lib.hid (HIT.out.below hb)
      have HRb := Lib.hid (HR.out.below hb HR.out.lt)
      have HBb := Lib.hid (HB.out.trans (hb.mono HB.out.size))
      have zb := hb.size
      clear hp hb cl
      go_wp2_with (with_reducible refine wpList_append_fits _ (o := ⟨some 25, _, _, _, _, _⟩) rfl _ _ 84 rfl (w.heap.size + 1) 35 i0 2 Tryd.underlying84 I0.out I2.out (w.heap.size + 1) k (N + 2) xs rfl (World.ownsRow.alloc HOb.out _) ⟨w2.heap.size, 0, none⟩ 1 1 [ex 212 p, il z] rfl rfl ?f251 ?f252 ?f253 ?_)
      try (case f251 =>
        intro j u hj
        match j, hj with
        | 0, hj => simp at hj; subst hj; simp [Addr.add_lit, World.cell?_alloc_new]
        | 1, hj => simp at hj; subst hj; simp [Addr.add_lit, World.cell?_alloc_new]
        | j + 2, hj => simp at hj)
      try (case f252 => simp [Value.oneCell'])
      try (case f253 => omega)
      intro w3 hown hgr
      obtain ⟨csg, hatg, -⟩ := ownAt (World.ownsRow.alloc HOb.out _) rfl
      have HR3 := Lib.hid ((HRb.out.alloc _).grown hgr (by simp only [ne_eq, Option.some.injEq]; omega))
      have HP3 := (HP.out.alloc _).grown hgr (fun e => atNe (HP.out.alloc _) hatg (by decide) (Option.some.inj e).symm)
      have HIT3 := Lib.hid (show IT w3 (xs ++ [ex 212 p, il z]) (k + 1) zs from by
        have h := (IT.grown (HITb.out.below ((Below.refl _ w2).alloc (Nat.le_refl _) _)) hatg hgr).snoc HO.out.1 p HP3
        rw [← HZ.out] at h
        exact h)
      have HB3 := Lib.hid (show Below w.heap.size w w3 from Below.grown (HBb.out.alloc HBb.out.size _) hgr (by simp; omega) (fun x hx => by simp only [Option.some.injEq] at hx; omega))
      have HO3 := Lib.hid hown
      clear hown hgr hatg HP3 csg
      go_wp2_with fail
      go_roundw
      case rel => exact ⟨k + 1, _, by go_num, by omega, rfl, HO3, HIT3, HR3, HB3⟩
      case measure => simp [intOf]; omega
    · obtain rfl : N = k := by omega
      go_wp2_with (with_reducible refine wpList_make_own _ (o := ⟨some 26, _, _, _, _, _⟩) rfl _ _ 84 rfl wr.heap.size 35 i0 _ 2 Tryd.underlying84 I0.out I1.out I2.out .i64 .i64 _ 2 rfl rfl ?g1 ?g2 ?g3 (Nat.le_refl _) ?_)
      case g1 => rfl
      case g2 => rw [I3.out]; omega
      case g3 => unfold maxLen; omega
      intro y0 hown hgr
      have hb : Below wr.heap.size wr y0 := Below.grown (Below.refl _ _) hgr (Nat.le_refl _) (fun k hk => by cases hk)
      have HO2 := Lib.hid hown
      have hg2 := (World.ownsRow.lt hown wr.heap.size rfl).2
      clear hown hgr
      have HR' := Lib.hid (HR.out.below hb HR.out.lt)
      have HR := HR'
      clear HR'
      have HO' := Lib.hid (ownBelow HO.out hb)
      have HO := HO'
      clear HO'
      have HIT' := Lib.hid (HIT.out.below hb)
      have HIT := HIT'
      clear HIT'
      have HB' := Lib.hid (HB.out.trans (hb.mono HB.out.size))
      have HB := HB'
      have zsy0 : wr.heap.size ≤ y0.heap.size := hb.size
      clear HB'
      clear hb
      obtain ⟨g2, hgg⟩ : ∃ g2, g2 = wr.heap.size := ⟨_, rfl⟩
      rw [← hgg] at HO2 hg2
      rw [← hgg]
      have z2 : w.heap.size + 1 < g2 := by omega
      clear hgg
      go_wp2_with fail
      refine (pickC a lb N 5 _ zs y0 rfl hN (by omega) HA.out (fun j hj => kept HB.out (HC.out j hj))).mono ?_
      rintro e w' ⟨rfl, rfl⟩
      go_wp2_with fail
      refine (zNum (pickV zs N 5) 13830554455654793216 y0).mono ?_
      rintro e x1 ⟨n5, rfl, h5, l5, hb⟩
      have HR' := Lib.hid (HR.out.below hb HR.out.lt)
      have HR := HR'
      clear HR'
      have HO' := Lib.hid (ownBelow HO.out hb)
      have HO := HO'
      clear HO'
      have HO2' := Lib.hid (ownBelow HO2.out hb)
      have HO2 := HO2'
      clear HO2'
      have HIT' := Lib.hid (HIT.out.below hb)
      have HIT := HIT'
      clear HIT'
      have HB' := Lib.hid (HB.out.trans (hb.mono HB.out.size))
      have HB := HB'
      have zsx1 : y0.heap.size ≤ x1.heap.size := hb.size
      clear HB'
      have H5 := Lib.hid h5
      clear hb h5
      have l5' : g2 < n5 := by omega
      go_wp2_with (with_reducible refine wpList_append_fits _ (o := ⟨some 32, _, _, _, _, _⟩) rfl _ _ 84 rfl g2 35 i0 2 Tryd.underlying84 I0.out I2.out g2 0 2 [] rfl (World.ownsRow.alloc HO2.out _) ⟨x1.heap.size, 0, none⟩ 1 1 [ex 212 n5, il (pickV zs N 5)] rfl rfl ?f321 ?f322 ?f323 ?_)
      try (case f321 =>
        intro j u hj
        match j, hj with
        | 0, hj => simp at hj; subst hj; simp [Addr.add_lit, World.cell?_alloc_new]
        | 1, hj => simp at hj; subst hj; simp [Addr.add_lit, World.cell?_alloc_new]
        | j + 2, hj => simp at hj)
      try (case f322 => simp [Value.oneCell'])
      try (case f323 => omega)
      intro x2 hown hgr
      obtain ⟨csg, hatg, -⟩ := ownAt (World.ownsRow.alloc HO2.out _) rfl
      have HR' := Lib.hid ((HR.out.alloc _).grown hgr (by simp only [ne_eq, Option.some.injEq]; omega))
      have HR := HR'
      clear HR'
      have H5' := Lib.hid ((H5.out.alloc _).grown hgr (by simp only [ne_eq, Option.some.injEq]; omega))
      have H5 := H5'
      clear H5'
      have HO' := Lib.hid (World.ownsRow.kept (World.ownsRow.alloc HO.out _) hgr (.inr (by simp only [Value.ownBlock, ne_eq, Option.some.injEq]; omega)))
      have HO := HO'
      clear HO'
      have HIT' := Lib.hid (IT.grown (HIT.out.below ((Below.refl _ x1).alloc (Nat.le_refl _) _)) hatg hgr)
      have HIT := HIT'
      clear HIT'
      have HB' := Lib.hid (show Below w.heap.size w x2 from Below.grown (HB.out.alloc HB.out.size _) hgr (by simp; omega) (fun x hx => by simp only [Option.some.injEq] at hx; omega))
      have HB := HB'
      clear HB'
      have zsx2 : x1.heap.size ≤ x2.heap.size := by have := hgr.size; simp at this; omega
      have HO2' := Lib.hid hown
      have HO2 := HO2'
      clear HO2' hgr hatg hown csg
      go_wp2_with fail
      refine (pickC a lb N 6 _ zs x2 rfl hN (by omega) HA.out (fun j hj => kept HB.out (HC.out j hj))).mono ?_
      rintro e w' ⟨rfl, rfl⟩
      go_wp2_with fail
      refine (zNum (pickV zs N 6) 13835058055282163712 x2).mono ?_
      rintro e x3 ⟨n6, rfl, h6, l6, hb⟩
      have HR' := Lib.hid (HR.out.below hb HR.out.lt)
      have HR := HR'
      clear HR'
      have H5' := Lib.hid (H5.out.below hb H5.out.lt)
      have H5 := H5'
      clear H5'
      have HO' := Lib.hid (ownBelow HO.out hb)
      have HO := HO'
      clear HO'
      have HO2' := Lib.hid (ownBelow HO2.out hb)
      have HO2 := HO2'
      clear HO2'
      have HIT' := Lib.hid (HIT.out.below hb)
      have HIT := HIT'
      clear HIT'
      have HB' := Lib.hid (HB.out.trans (hb.mono HB.out.size))
      have HB := HB'
      have zsx3 : x2.heap.size ≤ x3.heap.size := hb.size
      clear HB'
      have H6 := Lib.hid h6
      clear hb h6
      have l6' : g2 < n6 := by omega
      go_wp2_with (with_reducible refine wpList_append_fits _ (o := ⟨some 38, _, _, _, _, _⟩) rfl _ _ 84 rfl g2 35 i0 2 Tryd.underlying84 I0.out I2.out g2 (0 + 1) 2 ([] ++ [ex 212 n5, il (pickV zs N 5)]) rfl (World.ownsRow.alloc HO2.out _) ⟨x3.heap.size, 0, none⟩ 1 1 [ex 212 n6, il (pickV zs N 6)] rfl rfl ?f381 ?f382 ?f383 ?_)
      try (case f381 =>
        intro j u hj
        match j, hj with
        | 0, hj => simp at hj; subst hj; simp [Addr.add_lit, World.cell?_alloc_new]
        | 1, hj => simp at hj; subst hj; simp [Addr.add_lit, World.cell?_alloc_new]
        | j + 2, hj => simp at hj)
      try (case f382 => simp [Value.oneCell'])
      try (case f383 => omega)
      intro x4 hown hgr
      obtain ⟨csg, hatg, -⟩ := ownAt (World.ownsRow.alloc HO2.out _) rfl
      have HR' := Lib.hid ((HR.out.alloc _).grown hgr (by simp only [ne_eq, Option.some.injEq]; omega))
      have HR := HR'
      clear HR'
      have H5' := Lib.hid ((H5.out.alloc _).grown hgr (by simp only [ne_eq, Option.some.injEq]; omega))
      have H5 := H5'
      clear H5'
      have H6' := Lib.hid ((H6.out.alloc _).grown hgr (by simp only [ne_eq, Option.some.injEq]; omega))
      have H6 := H6'
      clear H6'
      have HO' := Lib.hid (World.ownsRow.kept (World.ownsRow.alloc HO.out _) hgr (.inr (by simp only [Value.ownBlock, ne_eq, Option.some.injEq]; omega)))
      have HO := HO'
      clear HO'
      have HIT' := Lib.hid (IT.grown (HIT.out.below ((Below.refl _ x3).alloc (Nat.le_refl _) _)) hatg hgr)
      have HIT := HIT'
      clear HIT'
      have HB' := Lib.hid (show Below w.heap.size w x4 from Below.grown (HB.out.alloc HB.out.size _) hgr (by simp; omega) (fun x hx => by simp only [Option.some.injEq] at hx; omega))
      have HB := HB'
      clear HB'
      have zsx4 : x3.heap.size ≤ x4.heap.size := by have := hgr.size; simp at this; omega
      have HO2' := Lib.hid hown
      have HO2 := HO2'
      clear HO2' hgr hatg hown csg
      go_wp2_with fail
      refine (pickC a lb N 2 _ zs x4 rfl hN (by omega) HA.out (fun j hj => kept HB.out (HC.out j hj))).mono ?_
      rintro e w' ⟨rfl, rfl⟩
      go_wp2_with fail
      refine (pickC a lb N 3 _ zs x4 rfl hN (by omega) HA.out (fun j hj => kept HB.out (HC.out j hj))).mono ?_
      rintro e w' ⟨rfl, rfl⟩
      go_wp2_with fail
      refine (pickC a lb N 4 _ zs x4 rfl hN (by omega) HA.out (fun j hj => kept HB.out (HC.out j hj))).mono ?_
      rintro e w' ⟨rfl, rfl⟩
      go_wp2_with fail
      refine (zStr (pickV zs N 4) x4).mono ?_
      rintro e x5 ⟨es, rfl, hes, les, hb⟩
      have HR' := Lib.hid (HR.out.below hb HR.out.lt)
      have HR := HR'
      clear HR'
      have H5' := Lib.hid (H5.out.below hb H5.out.lt)
      have H5 := H5'
      clear H5'
      have H6' := Lib.hid (H6.out.below hb H6.out.lt)
      have H6 := H6'
      clear H6'
      have HO' := Lib.hid (ownBelow HO.out hb)
      have HO := HO'
      clear HO'
      have HO2' := Lib.hid (ownBelow HO2.out hb)
      have HO2 := HO2'
      clear HO2'
      have HIT' := Lib.hid (HIT.out.below hb)
      have HIT := HIT'
      clear HIT'
      have HB' := Lib.hid (HB.out.trans (hb.mono HB.out.size))
      have HB := HB'
      have zsx5 : x4.heap.size ≤ x5.heap.size := hb.size
      clear HB'
      have HES := Lib.hid hes
      clear hb hes
      go_wp2_with fail
      refine (pickC a lb N 7 _ zs x5 rfl hN (by omega) HA.out (fun j hj => kept HB.out (HC.out j hj))).mono ?_
      rintro e w' ⟨rfl, rfl⟩
      go_wp2_with fail
      refine (pickC a lb N 8 _ zs x5 rfl hN (by omega) HA.out (fun j hj => kept HB.out (HC.out j hj))).mono ?_
      rintro e w' ⟨rfl, rfl⟩
      go_wp2_with fail
      refine (zArr (pickV zs N 7) (pickV zs N 8) ⟨g2, 0, none⟩ (0 + 1 + 1) 2 x5).mono ?_
      rintro e x6 ⟨ea, rfl, hea, lea, hb⟩
      have HR' := Lib.hid (HR.out.below hb HR.out.lt)
      have HR := HR'
      clear HR'
      have H5' := Lib.hid (H5.out.below hb H5.out.lt)
      have H5 := H5'
      clear H5'
      have H6' := Lib.hid (H6.out.below hb H6.out.lt)
      have H6 := H6'
      clear H6'
      have HES' := Lib.hid ((show ∃ cs, At x6 es 225 cs ∧ cs[0]? = some (.slice none 0 0) from by obtain ⟨cs, h, hz⟩ := HES.out; exact ⟨cs, h.below hb h.lt, hz⟩))
      have HES := HES'
      clear HES'
      have HO' := Lib.hid (ownBelow HO.out hb)
      have HO := HO'
      clear HO'
      have HO2' := Lib.hid (ownBelow HO2.out hb)
      have HO2 := HO2'
      clear HO2'
      have HIT' := Lib.hid (HIT.out.below hb)
      have HIT := HIT'
      clear HIT'
      have HB' := Lib.hid (HB.out.trans (hb.mono HB.out.size))
      have HB := HB'
      have zsx6 : x5.heap.size ≤ x6.heap.size := hb.size
      clear HB'
      have HEA := Lib.hid hea
      clear hb hea
      go_wp2_with fail
      refine (zObj (pickV zs N 2) (pickV zs N 3) 223 255 es ea (pickV zs N 4) (pickV zs N 7) x6).mono ?_
      rintro e x7 ⟨eo, pb, rfl, heo, hpb, leo, lpb, hb⟩
      have HR' := Lib.hid (HR.out.below hb HR.out.lt)
      have HR := HR'
      clear HR'
      have H5' := Lib.hid (H5.out.below hb H5.out.lt)
      have H5 := H5'
      clear H5'
      have H6' := Lib.hid (H6.out.below hb H6.out.lt)
      have H6 := H6'
      clear H6'
      have HES' := Lib.hid ((show ∃ cs, At x7 es 225 cs ∧ cs[0]? = some (.slice none 0 0) from by obtain ⟨cs, h, hz⟩ := HES.out; exact ⟨cs, h.below hb h.lt, hz⟩))
      have HES := HES'
      clear HES'
      have HEA' := Lib.hid (HEA.out.below hb HEA.out.lt)
      have HEA := HEA'
      clear HEA'
      have HO' := Lib.hid (ownBelow HO.out hb)
      have HO := HO'
      clear HO'
      have HO2' := Lib.hid (ownBelow HO2.out hb)
      have HO2 := HO2'
      clear HO2'
      have HIT' := Lib.hid (HIT.out.below hb)
      have HIT := HIT'
      clear HIT'
      have HB' := Lib.hid (HB.out.trans (hb.mono HB.out.size))
      have HB := HB'
      have zsx7 : x6.heap.size ≤ x7.heap.size := hb.size
      clear HB'
      have HEO := Lib.hid heo
      have HPB := Lib.hid hpb
      clear hb heo hpb
      go_wp2_with (with_reducible refine wpList_append_fits _ (o := ⟨some 55, _, _, _, _, _⟩) rfl _ _ 84 rfl (w.heap.size + 1) 35 i0 2 Tryd.underlying84 I0.out I2.out (w.heap.size + 1) N (N + 2) xs rfl (World.ownsRow.alloc HO.out _) ⟨x7.heap.size, 0, none⟩ 1 1 [ex 59 eo, il (pickV zs N 2)] rfl rfl ?f551 ?f552 ?f553 ?_)
      try (case f551 =>
        intro j u hj
        match j, hj with
        | 0, hj => simp at hj; subst hj; simp [Addr.add_lit, World.cell?_alloc_new]
        | 1, hj => simp at hj; subst hj; simp [Addr.add_lit, World.cell?_alloc_new]
        | j + 2, hj => simp at hj)
      try (case f552 => simp [Value.oneCell'])
      try (case f553 => omega)
      intro x8 hown hgr
      obtain ⟨csg, hatg, -⟩ := ownAt (World.ownsRow.alloc HO.out _) rfl
      have HR' := Lib.hid ((HR.out.alloc _).grown hgr (by simp only [ne_eq, Option.some.injEq]; omega))
      have HR := HR'
      clear HR'
      have H5' := Lib.hid ((H5.out.alloc _).grown hgr (by simp only [ne_eq, Option.some.injEq]; omega))
      have H5 := H5'
      clear H5'
      have H6' := Lib.hid ((H6.out.alloc _).grown hgr (by simp only [ne_eq, Option.some.injEq]; omega))
      have H6 := H6'
      clear H6'
      have HES' := Lib.hid (show ∃ cs, At x8 es 225 cs ∧ cs[0]? = some (.slice none 0 0) from by obtain ⟨cs, h, hz⟩ := HES.out; exact ⟨cs, (h.alloc _).grown hgr (by simp only [ne_eq, Option.some.injEq]; omega), hz⟩)
      have HES := HES'
      clear HES'
      have HEA' := Lib.hid ((HEA.out.alloc _).grown hgr (by simp only [ne_eq, Option.some.injEq]; omega))
      have HEA := HEA'
      clear HEA'
      have HEO' := Lib.hid ((HEO.out.alloc _).grown hgr (by simp only [ne_eq, Option.some.injEq]; omega))
      have HEO := HEO'
      clear HEO'
      have HPB' := Lib.hid ((HPB.out.alloc _).grown hgr (by simp only [ne_eq, Option.some.injEq]; omega))
      have HPB := HPB'
      clear HPB'
      have HO2' := Lib.hid (World.ownsRow.kept (World.ownsRow.alloc HO2.out _) hgr (.inr (by simp only [Value.ownBlock, ne_eq, Option.some.injEq]; omega)))
      have HO2 := HO2'
      clear HO2'
      have HIT' := Lib.hid (IT.grown (HIT.out.below ((Below.refl _ x7).alloc (Nat.le_refl _) _)) hatg hgr)
      have HIT := HIT'
      clear HIT'
      have HB' := Lib.hid (show Below w.heap.size w x8 from Below.grown (HB.out.alloc HB.out.size _) hgr (by simp; omega) (fun x hx => by simp only [Option.some.injEq] at hx; omega))
      have HB := HB'
      clear HB'
      have zsx8 : x7.heap.size ≤ x8.heap.size := by have := hgr.size; simp at this; omega
      have HO' := Lib.hid hown
      have HO := HO'
      clear HO' hgr hatg hown csg
      go_wp2_with fail
      refine (pickC a lb N 9 _ zs x8 rfl hN (by omega) HA.out (fun j hj => kept HB.out (HC.out j hj))).mono ?_
      rintro e w' ⟨rfl, rfl⟩
      go_wp2_with fail
      refine (pickC a lb N 10 _ zs x8 rfl hN (by omega) HA.out (fun j hj => kept HB.out (HC.out j hj))).mono ?_
      rintro e w' ⟨rfl, rfl⟩
      go_wp2_with fail
      refine (pickC a lb N 11 _ zs x8 rfl hN (by omega) HA.out (fun j hj => kept HB.out (HC.out j hj))).mono ?_
      rintro e w' ⟨rfl, rfl⟩
      go_wp2_with fail
      refine (zNum (pickV zs N 11) 13837309855095848960 x8).mono ?_
      rintro e x9 ⟨n11, rfl, h11, l11, hb⟩
      have HR' := Lib.hid (HR.out.below hb HR.out.lt)
      have HR := HR'
      clear HR'
      have H5' := Lib.hid (H5.out.below hb H5.out.lt)
      have H5 := H5'
      clear H5'
      have H6' := Lib.hid (H6.out.below hb H6.out.lt)
      have H6 := H6'
      clear H6'
      have HES' := Lib.hid ((show ∃ cs, At x9 es 225 cs ∧ cs[0]? = some (.slice none 0 0) from by obtain ⟨cs, h, hz⟩ := HES.out; exact ⟨cs, h.below hb h.lt, hz⟩))
      have HES := HES'
      clear HES'
      have HEA' := Lib.hid (HEA.out.below hb HEA.out.lt)
      have HEA := HEA'
      clear HEA'
      have HEO' := Lib.hid (HEO.out.below hb HEO.out.lt)
      have HEO := HEO'
      clear HEO'
      have HPB' := Lib.hid (HPB.out.below hb HPB.out.lt)
      have HPB := HPB'
      clear HPB'
      have HO' := Lib.hid (ownBelow HO.out hb)
      have HO := HO'
      clear HO'
      have HO2' := Lib.hid (ownBelow HO2.out hb)
      have HO2 := HO2'
      clear HO2'
      have HIT' := Lib.hid (HIT.out.below hb)
      have HIT := HIT'
      clear HIT'
      have HB' := Lib.hid (HB.out.trans (hb.mono HB.out.size))
      have HB := HB'
      have zsx9 : x8.heap.size ≤ x9.heap.size := hb.size
      clear HB'
      have H11 := Lib.hid h11
      clear hb h11
      go_wp2_with fail
      refine (zDot (pickV zs N 9) (pickV zs N 10) 212 n11 (pickV zs N 11) x9).mono ?_
      rintro e x10 ⟨ed, rfl, ⟨csd, hed, hd0, hd1, hd3⟩, led, hb⟩
      have HR' := Lib.hid (HR.out.below hb HR.out.lt)
      have HR := HR'
      clear HR'
      have H5' := Lib.hid (H5.out.below hb H5.out.lt)
      have H5 := H5'
      clear H5'
      have H6' := Lib.hid (H6.out.below hb H6.out.lt)
      have H6 := H6'
      clear H6'
      have HES' := Lib.hid ((show ∃ cs, At x10 es 225 cs ∧ cs[0]? = some (.slice none 0 0) from by obtain ⟨cs, h, hz⟩ := HES.out; exact ⟨cs, h.below hb h.lt, hz⟩))
      have HES := HES'
      clear HES'
      have HEA' := Lib.hid (HEA.out.below hb HEA.out.lt)
      have HEA := HEA'
      clear HEA'
      have HEO' := Lib.hid (HEO.out.below hb HEO.out.lt)
      have HEO := HEO'
      clear HEO'
      have HPB' := Lib.hid (HPB.out.below hb HPB.out.lt)
      have HPB := HPB'
      clear HPB'
      have H11' := Lib.hid (H11.out.below hb H11.out.lt)
      have H11 := H11'
      clear H11'
      have HO' := Lib.hid (ownBelow HO.out hb)
      have HO := HO'
      clear HO'
      have HO2' := Lib.hid (ownBelow HO2.out hb)
      have HO2 := HO2'
      clear HO2'
      have HIT' := Lib.hid (HIT.out.below hb)
      have HIT := HIT'
      clear HIT'
      have HB' := Lib.hid (HB.out.trans (hb.mono HB.out.size))
      have HB := HB'
      have zsx10 : x9.heap.size ≤ x10.heap.size := hb.size
      clear HB'
      have HED := Lib.hid hed
      clear hb hed
      go_wp2_with (with_reducible refine wpList_append_fits _ (o := ⟨some 66, _, _, _, _, _⟩) rfl _ _ 84 rfl (w.heap.size + 1) 35 i0 2 Tryd.underlying84 I0.out I2.out (w.heap.size + 1) (N + 1) (N + 2) (xs ++ [ex 59 eo, il (pickV zs N 2)]) rfl (World.ownsRow.alloc HO.out _) ⟨x10.heap.size, 0, none⟩ 1 1 [ex 262 ed, il (pickV zs N 9)] rfl rfl ?f661 ?f662 ?f663 ?_)
      try (case f661 =>
        intro j u hj
        match j, hj with
        | 0, hj => simp at hj; subst hj; simp [Addr.add_lit, World.cell?_alloc_new]
        | 1, hj => simp at hj; subst hj; simp [Addr.add_lit, World.cell?_alloc_new]
        | j + 2, hj => simp at hj)
      try (case f662 => simp [Value.oneCell'])
      try (case f663 => omega)
      intro x11 hown hgr
      obtain ⟨csg, hatg, -⟩ := ownAt (World.ownsRow.alloc HO.out _) rfl
      have HR' := Lib.hid ((HR.out.alloc _).grown hgr (by simp only [ne_eq, Option.some.injEq]; omega))
      have HR := HR'
      clear HR'
      have H5' := Lib.hid ((H5.out.alloc _).grown hgr (by simp only [ne_eq, Option.some.injEq]; omega))
      have H5 := H5'
      clear H5'
      have H6' := Lib.hid ((H6.out.alloc _).grown hgr (by simp only [ne_eq, Option.some.injEq]; omega))
      have H6 := H6'
      clear H6'
      have HES' := Lib.hid (show ∃ cs, At x11 es 225 cs ∧ cs[0]? = some (.slice none 0 0) from by obtain ⟨cs, h, hz⟩ := HES.out; exact ⟨cs, (h.alloc _).grown hgr (by simp only [ne_eq, Option.some.injEq]; omega), hz⟩)
      have HES := HES'
      clear HES'
      have HEA' := Lib.hid ((HEA.out.alloc _).grown hgr (by simp only [ne_eq, Option.some.injEq]; omega))
      have HEA := HEA'
      clear HEA'
      have HEO' := Lib.hid ((HEO.out.alloc _).grown hgr (by simp only [ne_eq, Option.some.injEq]; omega))
      have HEO := HEO'
      clear HEO'
      have HPB' := Lib.hid ((HPB.out.alloc _).grown hgr (by simp only [ne_eq, Option.some.injEq]; omega))
      have HPB := HPB'
      clear HPB'
      have H11' := Lib.hid ((H11.out.alloc _).grown hgr (by simp only [ne_eq, Option.some.injEq]; omega))
      have H11 := H11'
      clear H11'
      have HED' := Lib.hid ((HED.out.alloc _).grown hgr (by simp only [ne_eq, Option.some.injEq]; omega))
      have HED := HED'
      clear HED'
      have HO2' := Lib.hid (World.ownsRow.kept (World.ownsRow.alloc HO2.out _) hgr (.inr (by simp only [Value.ownBlock, ne_eq, Option.some.injEq]; omega)))
      have HO2 := HO2'
      clear HO2'
      have HIT' := Lib.hid (IT.grown (HIT.out.below ((Below.refl _ x10).alloc (Nat.le_refl _) _)) hatg hgr)
      have HIT := HIT'
      clear HIT'
      have HB' := Lib.hid (show Below w.heap.size w x11 from Below.grown (HB.out.alloc HB.out.size _) hgr (by simp; omega) (fun x hx => by simp only [Option.some.injEq] at hx; omega))
      have HB := HB'
      clear HB'
      have zsx11 : x10.heap.size ≤ x11.heap.size := by have := hgr.size; simp at this; omega
      have HO' := Lib.hid hown
      have HO := HO'
      clear HO' hgr hatg hown csg
      go_wp2_with fail
      refine (pickC a lb N 0 _ zs x11 rfl hN (by omega) HA.out (fun j hj => kept HB.out (HC.out j hj))).mono ?_
      rintro e w' ⟨rfl, rfl⟩
      go_wp2_with fail
      refine (pickC a lb N 1 _ zs x11 rfl hN (by omega) HA.out (fun j hj => kept HB.out (HC.out j hj))).mono ?_
      rintro e w' ⟨rfl, rfl⟩
      go_wp2_with fail
      have lea2 := HEA.out.lt
      refine (zArr (pickV zs N 0) (pickV zs N 1) ⟨w.heap.size + 1, 0, none⟩ (N + 1 + 1) (N + 2) x11).mono ?_
      rintro e x12 ⟨ra, rfl, hra, lra, hb⟩
      have HR' := Lib.hid (HR.out.below hb HR.out.lt)
      have HR := HR'
      clear HR'
      have H5' := Lib.hid (H5.out.below hb H5.out.lt)
      have H5 := H5'
      clear H5'
      have H6' := Lib.hid (H6.out.below hb H6.out.lt)
      have H6 := H6'
      clear H6'
      have HES' := Lib.hid ((show ∃ cs, At x12 es 225 cs ∧ cs[0]? = some (.slice none 0 0) from by obtain ⟨cs, h, hz⟩ := HES.out; exact ⟨cs, h.below hb h.lt, hz⟩))
      have HES := HES'
      clear HES'
      have HEA' := Lib.hid (HEA.out.below hb HEA.out.lt)
      have HEA := HEA'
      clear HEA'
      have HEO' := Lib.hid (HEO.out.below hb HEO.out.lt)
      have HEO := HEO'
      clear HEO'
      have HPB' := Lib.hid (HPB.out.below hb HPB.out.lt)
      have HPB := HPB'
      clear HPB'
      have H11' := Lib.hid (H11.out.below hb H11.out.lt)
      have H11 := H11'
      clear H11'
      have HED' := Lib.hid (HED.out.below hb HED.out.lt)
      have HED := HED'
      clear HED'
      have HO' := Lib.hid (ownBelow HO.out hb)
      have HO := HO'
      clear HO'
      have HO2' := Lib.hid (ownBelow HO2.out hb)
      have HO2 := HO2'
      clear HO2'
      have HIT' := Lib.hid (HIT.out.below hb)
      have HIT := HIT'
      clear HIT'
      have HB' := Lib.hid (HB.out.trans (hb.mono HB.out.size))
      have HB := HB'
      have zsx12 : x11.heap.size ≤ x12.heap.size := hb.size
      clear HB'
      have HRA := Lib.hid hra
      clear hb hra
      have r0 : x12.cell? ⟨w.heap.size, 0, none⟩ = some .nilIface := by rw [HR.out.cell]; rfl
      have r1 : x12.cell? ⟨w.heap.size, 1, none⟩ = some (il 0) := by rw [HR.out.cell]; rfl
      have rf0 := HR.out.frozen 0
      have rf1 := HR.out.frozen 1
      have lR := HR.out.lt
      obtain ⟨cs, hcs, _, hcz, htk⟩ := ownAt HO.out rfl
      have hx0 := HO.out.1
      have hxs : xs.length = N * 2 := by simp at hx0; omega
      have hget : ∀ i, i < (N + 2) * 2 → cs[i]? = (xs ++ [ex 59 eo, il (pickV zs N 2)] ++ [ex 262 ed, il (pickV zs N 9)])[i]? := fun i hi => by rw [List.append_assoc, show [ex 59 eo, il (pickV zs N 2)] ++ [ex 262 ed, il (pickV zs N 9)] = [ex 59 eo, il (pickV zs N 2), ex 262 ed, il (pickV zs N 9)] from rfl, ← htk, List.getElem?_take, if_pos (by omega)]; simp
      have HRW := Lib.hid (show ∃ cs, At x12 (w.heap.size + 1) 35 cs ∧ (∀ j, j < N → ∃ p, cs[j * 2]? = some (ex 212 p) ∧ cs[j * 2 + 1]? = some (il (LL zs N (2 + j))) ∧ At x12 p 214 #[.float .f64 (FloatKind.f64.nearest (j : Int))]) ∧ cs[N * 2]? = some (ex 59 eo) ∧ cs[N * 2 + 1]? = some (il (LL zs N (N + 2))) ∧ cs[(N + 1) * 2]? = some (ex 262 ed) ∧ cs[(N + 1) * 2 + 1]? = some (il (LL zs N (N + 9))) from by
        refine ⟨cs, hcs, fun j hj => ?_, ?_, ?_, ?_, ?_⟩
        · obtain ⟨p, h1, h2, h3⟩ := HIT.out j hj
          refine ⟨p, ?_, ?_, h3⟩
          · rw [hget _ (by omega), List.getElem?_append_left (by simp; omega), List.getElem?_append_left (by omega)]; exact h1
          · rw [hget _ (by omega), List.getElem?_append_left (by simp; omega), List.getElem?_append_left (by omega), LL_item zs N j hj]; exact h2
        · rw [hget _ (by omega), List.getElem?_append_left (by simp; omega), List.getElem?_append_right (by omega), hxs, Nat.sub_self]; rfl
        · rw [hget _ (by omega), List.getElem?_append_left (by simp; omega), List.getElem?_append_right (by omega), hxs, show N * 2 + 1 - N * 2 = 1 from by omega, LL_2]; rfl
        · rw [hget _ (by omega), List.getElem?_append_right (by simp; omega), show (N + 1) * 2 - (xs ++ [ex 59 eo, il (pickV zs N 2)]).length = 0 from by simp; omega]; rfl
        · rw [hget _ (by omega), List.getElem?_append_right (by simp; omega), show (N + 1) * 2 + 1 - (xs ++ [ex 59 eo, il (pickV zs N 2)]).length = 1 from by simp; omega, LL_9]; rfl)
      have HTR := Lib.hid (show TR x12 w.heap.size ra N (LL zs N) (w.heap.size + 1) (N + 2) eo pb ea g2 ed es n5 n6 n11 from by
        refine ⟨by omega, by omega, ?_, HRW.out, ⟨Nat.le_refl _, by unfold maxLen; omega⟩, ?_, ?_, HES.out, ?_, ?_, ⟨csd, HED.out, hd0, by rw [LL_11]; exact hd1, ?_⟩, H5.out, H6.out, H11.out⟩
        · rw [LL_1]; exact HRA.out
        · rw [LL_3]; exact HEO.out
        · rw [LL_4, LL_5]; exact HPB.out
        · rw [LL_6]; exact HEA.out
        · rw [LL_7, LL_8]; exact ownAll HO2.out
        · rw [LL_10]; exact hd3)
      clear hcs hcz htk hget hx0 hxs
      have HFIN := Lib.hid (show BT N zs w (.returned (.agg #[ex 255 ra, il (pickV zs N 0)])) ((x12.setCell ⟨w.heap.size, 0, none⟩ (ex 255 ra)).setCell ⟨w.heap.size, 1, none⟩ (il (pickV zs N 0))) from
        ⟨ra, _, _, eo, pb, ea, g2, ed, es, n5, n6, n11, rfl, (HTR.out.setFar ⟨by omega, by omega, by omega, by omega, by omega, by omega⟩ HR.out rfl _).setFar ⟨by omega, by omega, by omega, by omega, by omega, by omega⟩ (HR.out.set 0 _) rfl _, (HB.out.setCell (by simp) _).setCell (by simp) _⟩)
      go_wp2_with fail
      exact bodyPost_ret (v := .agg #[ex 255 ra, il (pickV zs N 0)]) (by simp [results, Tryd.results37, go_sem, *]) rfl HFIN.out
end Go.Proofs.YtjlmaingeobgeaaDoor
