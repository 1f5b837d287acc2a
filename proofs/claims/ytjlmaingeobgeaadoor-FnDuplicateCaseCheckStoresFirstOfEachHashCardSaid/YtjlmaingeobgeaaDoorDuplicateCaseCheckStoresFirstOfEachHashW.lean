/- Proved here: the walk of FnDuplicateCaseCheckStoresFirstOfEachHash: it returns true. Conditions: the argument lies as stated. -/
import Derived.Test.YtjlmaingeobgeaaDoorDKN
import Derived.WalkKit
import Derived.WalkSpells
import Derived.WalkLawsBesides
import Derived.Lib.Hide
import Derived.Lib.SliceRun
import Derived.Deep.RegionWith
import Derived.OwnWalk
import Derived.Laws.OwnMore
import Derived.Deep.QuietTactic
import Derived.BigQuiet
namespace Go.Proofs.YtjlmaingeobgeaaDoor.fnDuplicateCaseCheckStoresFirstOfEachHash
open Go.RowKit
set_option linter.unusedSimpArgs false
set_option linter.unusedVariables false

def fH (zs : List Nat) (i : Nat) : Nat := (hN (fAt zs i)).toNat
theorem fH_cast (zs : List Nat) (i : Nat) : ((fH zs i : Nat) : Int) = hN (fAt zs i) := Int.toNat_of_nonneg (hN_range _).1
theorem fH_le (zs : List Nat) (i : Nat) : fH zs i ≤ 4294967295 := by have := hN_range (fAt zs i); unfold fH; omega
def L1 (n : Nat) (zs : List Nat) (lo D : Nat) (W : World) (i : Value) (wr : World) : Prop :=
  ∃ (k : Nat) (v : Value) (its : List (Nat × Nat)), k ≤ n ∧ i = .int .i64 k ∧ Hid (CK wr lo D v its (fH zs) 212) ∧ Hid (its.map Prod.fst = nb (fH zs) k) ∧ Hid (∀ x, x ∈ its → x.1 < k ∧ At wr x.2 214 #[.float .f64 (fAt zs x.1)]) ∧ Hid (Below lo W wr)
def wants (zs : List Nat) (k : Nat) : List Value := (nb (fH zs) k).map fun i => .int .u32 (fH zs i : Int)
def L2 (n : Nat) (zs : List Nat) (W : World) (v i : Value) (wr : World) : Prop :=
  ∃ (k : Nat), k ≤ n ∧ i = .int .i64 k ∧ Hid (wr.ownsRow W.heap.size 39 1 v (nb (fH zs) k).length (wants zs k)) ∧ Hid (Below W.heap.size W wr)
def L3 (zs : List Nat) (l : List Nat) (h : Nat) (W : World) (s j : Value) (wr : World) : Prop :=
  ∃ m : Nat, m ≤ l.length ∧ s = .bool false ∧ j = .int .i64 m ∧ Hid (∀ t x, t < m → l[t]? = some x → fH zs x ≠ h) ∧ wr = W
def L4 (n : Nat) (W : World) (i : Value) (wr : World) : Prop := ∃ m : Nat, m ≤ n ∧ i = .int .i64 m ∧ ∃ q, wr = W.drewN q
theorem wants_len (zs : List Nat) (k : Nat) : (wants zs k).length = (nb (fH zs) k).length := by simp [wants]
theorem ownShape {w : World} {B : Nat} {e : TypeId} {sz : Nat} {v : Value} {n : Nat} {xs : List Value} (h : w.ownsRow B e sz v n xs) : ∃ a c, v = .slice a n c := by
  obtain ⟨_, ⟨rfl, h0⟩ | ⟨g, cap, cur, rfl, _⟩⟩ := h
  · rw [h0]; exact ⟨_, _, rfl⟩
  · exact ⟨_, _, rfl⟩
theorem ownCell {w : World} {B : Nat} {e : TypeId} {a : Option Addr} {n c : Nat} {xs : List Value} (h : w.ownsRow B e 1 (.slice a n c) n xs) {j : Nat} (hj : j < n) : ∃ g, a = some ⟨g, 0, none⟩ ∧ w.cell? ⟨g, j, none⟩ = xs[j]? := by
  obtain ⟨hl, ⟨e1, e2⟩ | ⟨g, cap, cur, e1, h3, h4, h5⟩⟩ := id h
  · exact absurd e2 (by omega)
  · simp only [Value.slice.injEq] at e1
    obtain ⟨rfl, _, rfl⟩ := e1
    exact ⟨g, rfl, World.ownsRow.cellAt h j (by omega)⟩
set_option maxRecDepth 100000 in
theorem early (a0 : Option Addr) (len0 cap0 : Nat) (w : World) (hn : len0 ≤ maxLen) (h : 4096 < len0) :
    Calls Tryd.prog 3 #[.slice a0 len0 cap0] w fun e w' => e = .returned (.bool true) ∧ Below w.heap.size w w' := by
  have HB := Lib.hid (bytes8 a0 len0 cap0 w hn)
  unfold maxLen at hn
  go_enter Tryd.func3, Tryd.ntmps3
  go_wp2_with fail
  refine HB.out.mono ?_
  rintro e w' ⟨⟨b, rfl⟩, rfl⟩
  cases b
  · go_wp2_with fail
    go_ret
    exact ⟨rfl, Below.refl _ _⟩
  · go_wp2_with fail
    go_ret
    exact ⟨rfl, Below.refl _ _⟩
set_option maxRecDepth 100000 in
set_option maxHeartbeats 16000000 in
theorem walk (a0 : Option Addr) (len0 cap0 : Nat) (z0 : List Nat) (w : World) (w0 : IsFloats .f64 w a0 len0 cap0 z0) :
    Calls Tryd.prog 3 #[.slice a0 len0 cap0] w fun e w' => e = .returned (.bool true) ∧ Below w.heap.size w w' := by
  obtain ⟨hn, hz⟩ := len_floats w0
  by_cases hbig : 4096 < len0
  · exact early a0 len0 cap0 w hn hbig
  obtain ⟨i0, hi0, hz0, hz1, hz2⟩ := info_parts info39
  have I0 := Lib.hid hi0
  have I1 := Lib.hid hz0
  have I2 := Lib.hid hz1
  have I3 := Lib.hid hz2
  clear hi0 hz0 hz1 hz2
  have HB := Lib.hid (bytes8 a0 len0 cap0 w hn)
  have HR := Lib.hid (show RowV w a0 len0 (fun i => .float .f64 (fAt z0 i)) from rowv_floats w0)
  have HZ := Lib.hid (show ∀ i, fAt z0 i < 18446744073709551616 from fun i => wf_f64 (hz i))
  have HI := Lib.hid w0
  clear hz w0 hn
  go_enter Tryd.func3, Tryd.ntmps3
  go_wp2_with fail
  refine HB.out.mono ?_
  rintro e w' ⟨⟨b, rfl⟩, rfl⟩
  clear HB
  cases b
  · go_wp2_with fail
    go_ret
    exact ⟨rfl, Below.refl _ _⟩
  go_wp2_with fail
  refine (dist a0 len0 cap0 z0 w HR.out (by omega)).mono ?_
  rintro e w1 ⟨⟨b, rfl, hb⟩, q, rfl⟩
  have HD := Lib.hid hb
  clear hb
  cases b
  · go_wp2_with fail
    go_ret
    exact ⟨rfl, below_drewN (Below.refl _ _) _⟩
  obtain ⟨W1, hW1⟩ : ∃ W, W = w.drewN q := ⟨_, rfl⟩
  have HI1 := Lib.hid (show IsFloats .f64 W1 a0 len0 cap0 z0 from by rw [hW1]; exact HI.out)
  have HB1 := Lib.hid (show Below w.heap.size w W1 from by rw [hW1]; exact below_drewN (Below.refl _ _) _)
  rw [← hW1]
  clear hW1 HI HR
  go_wp2_with fail
  refine (cpF_any a0 len0 cap0 z0 W1 HI1.out (by omega)).mono ?_
  rintro e w2 ⟨p0, q0, rfl, r0, hb2⟩
  have HR := Lib.hid (show RowV w2 p0 len0 (fun i => .float .f64 (fAt z0 i)) from r0)
  have HB2 := Lib.hid (bel2 HB1.out hb2)
  clear r0 hb2 HB1 HI1
  go_wp2_with fail
  refine (newCk (fH z0) 212 w2.heap.size w2 (Nat.le_refl _)).mono ?_
  rintro e w3 ⟨rfl, hck, hb3, hlt3⟩
  have HCK := Lib.hid hck
  have HB3 := Lib.hid hb3
  obtain ⟨D, hD⟩ : ∃ D, D = w2.heap.size := ⟨_, rfl⟩
  rw [← hD] at HCK ⊢
  have HDD := Lib.hid hD
  clear hck hb3 hD
  go_wp2_with fail
  refine (newPr w3).mono ?_
  rintro e w4 ⟨rfl, hb4⟩
  have HC4 := Lib.hid (HCK.out.below hb4)
  have HB4 := Lib.hid (show Below w2.heap.size w2 w4 from HB3.out.trans (hb4.mono HB3.out.size))
  obtain ⟨P, hP⟩ : ∃ P, P = w3.heap.size := ⟨_, rfl⟩
  rw [← hP]
  clear hb4 HCK HB3 hP hlt3
  go_wp2_with fail
  go_loopw [5] (fun i wr => L1 len0 z0 D D w2 i wr) (fun i _ => len0 - (intOf i).toNat)
  case atStart => exact ⟨0, _, [], by omega, rfl, HC4, Lib.hid rfl, Lib.hid (fun x hx => by cases hx), Lib.hid (by rw [HDD.out]; exact HB4.out)⟩
  case round =>
    obtain ⟨k, v, its, hk, rfl, HCr, HFr, HVr, HBr⟩ := hrel
    by_cases hlt : k < len0
    · obtain ⟨BN, off, rfl, hc⟩ := (HR.out.below (HDD.out ▸ HBr.out)) (by omega)
      have c0 := hc k hlt
      have lBN := World.block_lt_of_cell? _ _ c0
      obtain ⟨x, hx⟩ : ∃ x, x = fAt z0 k := ⟨_, rfl⟩
      simp only [← hx] at c0
      have HX := Lib.hid hx
      clear hc hx
      go_wp2_with fail
      refine (mkN x wr).mono ?_
      rintro e w5 ⟨p, rfl, hat, hge, hb5⟩
      have hlo : D ≤ w5.heap.size := by have := HBr.out.size; have := hb5.size; have := HDD.out; omega
      have HC5 := Lib.hid (HCr.out.below hb5)
      have HV5 := Lib.hid (show ∀ x, x ∈ its → x.1 < k ∧ At w5 x.2 214 #[.float .f64 (fAt z0 x.1)] from fun y hy => ⟨(HVr.out y hy).1, (HVr.out y hy).2.below hb5 (HVr.out y hy).2.lt⟩)
      have HB5 := Lib.hid (show Below D w2 w5 from HBr.out.trans (hb5.mono (by have := HBr.out.size; have := HDD.out; omega)))
      have HAT := Lib.hid hat
      have hlen : its.length ≤ 65536 := by
        have h1 := congrArg List.length HFr.out
        have h2 := nb_len (fH z0) k
        simp at h1
        omega
      have CHK := Lib.hid (zcheck D D P v its (fH z0) 212 k p w5 (fun W' hW' => chk D D P v its (fH z0) 212 k p W' (Nat.le_trans hlo hW'.size) (fH_le _ _) hlen (HC5.out.below hW')
        (fun W2 hb => by
          rw [fH_cast, ← HX.out]
          have ha := (HAT.out.below hW' HAT.out.lt).below hb (HAT.out.below hW' HAT.out.lt).lt
          exact hashN p x W2 (by rw [ha.cell]; rfl) (by rw [HX.out]; exact HZ.out k))
        (fun y hy _ W2 hb => by
          have ha := (HAT.out.below hW' HAT.out.lt).below hb (HAT.out.below hW' HAT.out.lt).lt
          have hy1 := (HV5.out y hy).2.below hW' (HV5.out y hy).2.lt
          have hy2 := hy1.below hb hy1.lt
          exact eqN y.2 p (fAt z0 y.1) x W2 (by rw [hy2.cell]; rfl) (by rw [ha.cell]; rfl) (by rw [HX.out]; exact HD.out (by trivial) y.1 k (HV5.out y hy).1 hlt))) hlo)
      clear hat hge hb5 HCr HVr HBr c0 lBN
      go_wp2_with fail
      refine CHK.out.mono ?_
      rintro e w6 ⟨v', rfl, hck, hfr, hb6, hv⟩
      have HC6 := Lib.hid hck
      have HB6 := Lib.hid (HB5.out.trans hb6)
      have HF6 := Lib.hid (push_fst (q := p) HFr.out)
      have hlow := HC5.out.low
      have KEEP : ∀ (r x : Nat), At w5 r 214 #[.float .f64 x] → At w6 r 214 #[.float .f64 x] := fun r x h => by
        have n1 : r ≠ D := by
          rintro rfl
          obtain ⟨cs, bs, h1, _⟩ := HC5.out.bits
          unfold At at h h1
          rw [h1] at h
          simp at h
        exact (hfr.2 r h.lt n1 (atNe HC5.out.row h (by decide))).trans h
      have HV6 := Lib.hid (show ∀ y, y ∈ push (fH z0) its k p → y.1 < k + 1 ∧ At w6 y.2 214 #[.float .f64 (fAt z0 y.1)] from fun y hy => by
        rcases push_mem hy with hy | rfl
        · exact ⟨by have := (HV5.out y hy).1; omega, KEEP _ _ (HV5.out y hy).2⟩
        · exact ⟨by simp, by rw [← HX.out]; exact KEEP _ _ HAT.out⟩)
      clear hck hfr hb6 hv KEEP HC5 HV5 HB5 HAT HFr CHK
      go_wp2_with fail
      go_roundw
      case rel => exact ⟨k + 1, v', _, by omega, by go_num, HC6, HF6, HV6, HB6⟩
      case measure => simp [intOf]; omega
    · have e : k = len0 := by omega
      subst e
      have HRr := Lib.hid (HR.out.below (HDD.out ▸ HBr.out))
      have HBW := Lib.hid (show Below w.heap.size w wr from HB2.out.trans ((HDD.out ▸ HBr.out).mono HB2.out.size))
      clear HR HBr HB2 HB4 HC4 HVr
      go_wp2_with (with_reducible refine wpList_make_own _ (o := ⟨some 42, _, _, _, _, _⟩) rfl _ _ 38 rfl wr.heap.size 39 i0 _ 1 Tryd.underlying38 I0.out I1.out I2.out .i64 .i64 _ k rfl rfl ?e1 ?e2 ?e3 (Nat.le_refl _) ?_)
      case e1 => rfl
      case e2 => rw [I3.out]; omega
      case e3 => unfold maxLen; omega
      intro w5 hown hgr
      have HO := Lib.hid hown
      have HB5 := Lib.hid (show Below wr.heap.size wr w5 from Below.grown (Below.refl _ _) hgr (Nat.le_refl _) (fun k hk => by cases hk))
      clear hown hgr
      obtain ⟨W, hW⟩ : ∃ W, W = wr := ⟨_, rfl⟩
      rw [← hW] at HO HB5 HCr HRr HBW ⊢
      clear hW
      go_wp2_with fail
      go_loopw [6, 7] (fun v i wr => L2 k z0 W v i wr) (fun _ i _ => k - (intOf i).toNat)
      case atStart => exact ⟨0, by omega, rfl, HO, HB5⟩
      case round =>
        obtain ⟨j, hj, rfl, HOr, HBr⟩ := hrel
        clear HO HB5
        obtain ⟨aw, cw, rfl⟩ := ownShape HOr.out
        by_cases hlt2 : j < k
        · obtain ⟨BN, off, rfl, hc⟩ := (HRr.out.below HBr.out) (by omega)
          have c0 := hc j hlt2
          have lBN := World.block_lt_of_cell? _ _ c0
          obtain ⟨x, hx⟩ : ∃ x, x = fAt z0 j := ⟨_, rfl⟩
          simp only [← hx] at c0
          have HX := Lib.hid hx
          clear hc hx
          go_wp2_with fail
          refine (mkN x wr).mono ?_
          rintro e w6 ⟨p, rfl, hat, hge, hb6⟩
          have HAT := Lib.hid hat
          have HB6 := Lib.hid (show Below W.heap.size W w6 from HBr.out.trans (hb6.mono HBr.out.size))
          have lown : ∀ g, (Value.slice aw (nb (fH z0) j).length cw).ownBlock = some g → g < wr.heap.size := fun g hg => (World.ownsRow.lt HOr.out g hg).2
          have HO6 := Lib.hid (ownKeep HOr.out (fun g hg => hb6.block g (lown g hg)))
          obtain ⟨h, hh⟩ : ∃ h, h = fH z0 j := ⟨_, rfl⟩
          have HH := Lib.hid hh
          have ZH := Lib.hid (show Calls Tryd.prog 15 #[.agg #[.iface 212 (.pointer (some ⟨p, 0, none⟩)), .int .i32 0]] w6 fun e w' => e = .returned (.tuple #[.int .u32 (h : Int), .bool true]) ∧ Below w6.heap.size w6 w' from zhash 212 p h w6 (fun W' hb => by
            have ha := HAT.out.below hb HAT.out.lt
            have := hashN p x W' (by rw [ha.cell]; rfl) (by rw [HX.out]; exact HZ.out j)
            rw [hh, fH_cast, ← HX.out]
            exact this))
          clear hat hge hb6 hh HOr HBr c0 lBN lown
          go_wp2_with fail
          refine ZH.out.mono ?_
          rintro e w7 ⟨rfl, hb7⟩
          have HB7 := Lib.hid (show Below W.heap.size W w7 from HB6.out.trans (hb7.mono HB6.out.size))
          have HO7 := Lib.hid (ownKeep HO6.out (fun g hg => hb7.block g (World.ownsRow.lt HO6.out g hg).2))
          obtain ⟨l, hl⟩ : ∃ l, l = nb (fH z0) j := ⟨_, rfl⟩
          rw [← hl] at HO7 ⊢
          have HL := Lib.hid hl
          have hlen : l.length ≤ j := by rw [hl]; exact nb_len _ _
          have HRW := Lib.hid (show ∀ (t : Nat) (y : Nat), l[t]? = some y → ∃ g, aw = some ⟨g, 0, none⟩ ∧ w7.cell? ⟨g, t, none⟩ = some (.int .u32 (fH z0 y : Int)) from fun t y hy => by
            have ht : t < l.length := (List.getElem?_eq_some_iff.1 hy).1
            obtain ⟨g, e1, e2⟩ := ownCell HO7.out ht
            refine ⟨g, e1, ?_⟩
            rw [e2]
            unfold wants
            rw [← HL.out, List.getElem?_map, hy]
            rfl)
          have h0 : (0 : Int) ≤ (h : Int) := Int.natCast_nonneg _
          clear hb7 HB6 HO6 ZH HAT hl
          go_wp2_with fail
          go_loopw [10, 11] (fun s t wr => L3 z0 l h w7 s t wr) (fun _ t _ => l.length - (intOf t).toNat)
          case atStart => exact ⟨0, by omega, rfl, rfl, Lib.hid (fun t x ht _ => absurd ht (by omega)), rfl⟩
          case round =>
            obtain ⟨m, hm, rfl, rfl, HNE, rfl⟩ := hrel
            by_cases hlt3 : m < l.length
            · obtain ⟨y, hy⟩ : ∃ y, l[m]? = some y := ⟨_, List.getElem?_eq_getElem hlt3⟩
              obtain ⟨g, rfl, g0⟩ := HRW.out m y hy
              have lg := World.block_lt_of_cell? _ _ g0
              obtain ⟨f, hf⟩ : ∃ f, f = fH z0 y := ⟨_, rfl⟩
              rw [← hf] at g0
              have HY := Lib.hid hy
              have HFF := Lib.hid hf
              clear hy hf
              by_cases he : f = h
              · have e1 : ((f : Int) == (h : Int)) = true := by simp [he]
                have HNB := Lib.hid (show nb (fH z0) (j + 1) = l from by
                  simp only [nb]
                  rw [← HL.out, if_pos]
                  rw [List.any_eq_true]
                  exact ⟨y, List.mem_of_getElem? HY.out, by rw [← HFF.out, he, HH.out]; simp⟩)
                clear he
                go_wp2_with fail
                go_roundw
                case rel => exact ⟨j + 1, by omega, by go_num, Lib.hid (by rw [HNB.out]; have := HO7.out; unfold wants at this ⊢; rw [HNB.out]; rw [← HL.out] at this; exact this), HB7⟩
                case measure => simp [intOf]; omega
              · have e1 : ((f : Int) == (h : Int)) = false := by simp; omega
                have N1 := Lib.hid (show ∀ t x, t < m + 1 → l[t]? = some x → fH z0 x ≠ h from fun t x ht hx => by
                  by_cases e : t = m
                  · subst e
                    rw [HY.out] at hx
                    cases hx
                    rw [← HFF.out]; exact he
                  · exact HNE.out t x (by omega) hx)
                clear he
                go_wp2_with fail
                go_roundw
                case rel => exact ⟨m + 1, by omega, rfl, by go_num, N1, rfl⟩
                case measure => simp [intOf]; omega
            · have em : m = l.length := by omega
              subst em
              have HNB := Lib.hid (show nb (fH z0) (j + 1) = l ++ [j] from by
                simp only [nb]
                rw [← HL.out, if_neg]
                rw [List.any_eq_true]
                rintro ⟨y, hy, e⟩
                obtain ⟨t, ht, rfl⟩ := List.getElem_of_mem hy
                exact HNE.out t _ ht (List.getElem?_eq_getElem ht) (by rw [HH.out]; simpa using e))
              have hw7 : W.heap.size ≤ wr.heap.size := HB7.out.size
              clear HNE
              go_wp2_with (with_reducible refine wpList_append_lies _ (o := ⟨some 77, _, _, _, _, _⟩) rfl _ _ 38 rfl W.heap.size 39 i0 _ 1 4 Tryd.underlying38 I0.out I1.out I2.out I3.out rfl (by omega) (.slice aw l.length cw) l.length (wants z0 j) rfl (HO7.out.alloc _) ⟨wr.heap.size, 0, none⟩ 1 1 [.int .u32 (h : Int)] rfl rfl (World.news_of_block (cs := #[.int .u32 (h : Int)]) (t := 39) (fr := (0, 0)) (heap_alloc_new wr _)) (by simp [Value.oneCell']) (by omega) (by unfold maxLen; omega) (by omega) (by simp; omega) (wr.heap.size + 1) (by simp) ?_)
              intro g' c' w8 ho8 hg8 hlie hlt8
              have HO8 := Lib.hid (show w8.ownsRow W.heap.size 39 1 (.slice (some ⟨g', 0, none⟩) (l.length + 1) c') (nb (fH z0) (j + 1)).length (wants z0 (j + 1)) from by
                have e1 : wants z0 (j + 1) = wants z0 j ++ [.int .u32 (h : Int)] := by
                  unfold wants
                  rw [HNB.out, ← HL.out, HH.out]
                  simp
                rw [e1, HNB.out]
                simpa using ho8)
              have HB8 := Lib.hid (show Below W.heap.size W w8 from Below.grown (HB7.out.alloc hw7 _) hg8 (by simp; omega) (fun x hx => by
                have := (World.ownsRow.lt HO7.out x hx).1
                omega))
              clear ho8 hg8 hlie
              have HLEN := Lib.hid (show (nb (fH z0) (j + 1)).length = l.length + 1 from by rw [HNB.out]; simp)
              go_wp2_with fail
              go_roundw
              case rel => exact ⟨j + 1, by omega, by go_num, HO8, HB8⟩
              case measure => simp [intOf]; omega
        · have e : j = k := by omega
          subst e
          have HC6 := Lib.hid (HCr.out.below HBr.out)
          have HB6 := Lib.hid (bel2 HBW.out HBr.out)
          obtain ⟨a6, c6, rfl, d0, hcells⟩ := HC6.out.cells
          have hleq : its.length = (nb (fH z0) j).length := by
            have := congrArg List.length HFr.out
            simpa using this
          have HCL := Lib.hid hcells
          have HLE := Lib.hid hleq
          have hl6 : its.length ≤ 1048576 := by have := nb_len (fH z0) j; omega
          obtain ⟨m, hm⟩ : ∃ m, m = its.length := ⟨_, rfl⟩
          rw [← hm] at d0 hl6
          rw [← hleq, ← hm] at HOr
          rw [← hleq, ← hm]
          have HM := Lib.hid hm
          have CNT := Lib.hid (ckCount D a6 m c6 wr d0)
          have HD0 := Lib.hid d0
          clear hcells hleq hm HBW HBr HRr HCr
          go_wp2_with fail
          refine CNT.out.mono ?_
          rintro e w' ⟨rfl, rfl⟩
          obtain ⟨WW, hWW⟩ : ∃ W, W = wr := ⟨_, rfl⟩
          rw [← hWW] at HB6 HCL HD0 HOr ⊢
          clear hWW d0 CNT
          go_wp2_with fail
          go_loopw [12] (fun i wr => L4 m WW i wr) (fun i _ => m - (intOf i).toNat)
          case atStart => exact ⟨0, by omega, rfl, ⟨0, rfl⟩⟩
          case round =>
            obtain ⟨t, ht, rfl, q4, rfl⟩ := hrel
            by_cases hlt4 : t < m
            · obtain ⟨y, hy⟩ : ∃ y, its[t]? = some y := ⟨_, List.getElem?_eq_getElem (by rw [← HM.out]; exact hlt4)⟩
              obtain ⟨g6, rfl, hg⟩ := HCL.out t y hy
              have e2 := hg 2 (by omega)
              obtain ⟨gw, rfl, ew⟩ := ownCell HOr.out hlt4
              have ew2 : WW.cell? ⟨gw, t, none⟩ = some (.int .u32 (fH z0 y.1 : Int)) := by
                rw [ew]
                unfold wants
                rw [← HFr.out, List.map_map, List.getElem?_map, hy]
                rfl
              have e3 : WW.cell? ⟨g6, t * 3 + 2, none⟩ = some (.int .u32 (fH z0 y.1 : Int)) := by rw [e2]; rfl
              obtain ⟨h, hh⟩ : ∃ h, h = fH z0 y.1 := ⟨_, rfl⟩
              rw [← hh] at ew2 e3
              obtain ⟨V, hV⟩ : ∃ V, V = WW.drewN q4 := ⟨_, rfl⟩
              have HVV := Lib.hid hV
              have k1 : V.cell? ⟨gw, t, none⟩ = some (.int .u32 (h : Int)) := by rw [hV]; exact ew2
              have lgw := World.block_lt_of_cell? _ _ k1
              have HCH := Lib.hid (fun (W' : World) (hs : ∃ n, W' = V.drewN n) => ckHash D (some ⟨g6, 0, none⟩) m c6 g6 W' t h rfl (by obtain ⟨n, rfl⟩ := hs; rw [hV]; exact HD0.out) hlt4 (by omega) (by obtain ⟨n, rfl⟩ := hs; rw [hV]; exact e3))
              rw [← hV]
              clear hV hh e3 ew2 ew e2 hg hy
              go_wp2_with fail
              go_quiet ((go_at_call 17; exact Calls.quiet_of_same ((HCH.out _ ⟨_, rfl⟩).mono fun _ _ h => ⟨h.1, h.2.symm⟩)))
              go_wp2_with fail
              go_roundw
              case rel => exact ⟨t + 1, by omega, by go_num, by rw [HVV.out]; exact ⟨_, World.drewN_drewN _ _ _⟩⟩
              case measure => simp [intOf]; omega
            · have e : t = m := by omega
              subst e
              go_wp2_with fail
              go_ret
              exact ⟨rfl, below_drewN HB6.out _⟩
          
      
end Go.Proofs.YtjlmaingeobgeaaDoor.fnDuplicateCaseCheckStoresFirstOfEachHash
