/- Proved here: the contract of zzBuildStmts. Conditions as stated. -/
import Derived.Test.YthgcchgpplblbaaDoorUXG
import Derived.WalkKit
import Derived.WalkSpells
import Derived.WalkLawsBesides
import Derived.Lib.Hide
import Derived.Lib.SliceRun
import Derived.Deep.RegionWith
import Derived.OwnWalk
import Derived.Laws.OwnMore
import Derived.BigRegion
import Derived.Carry
import Derived.IntWalk
namespace Go.Proofs.YthgcchgpplblbaaDoor
open Go.RowKit
set_option linter.unusedSimpArgs false
set_option linter.unusedVariables false

namespace UX
def kF (z : List Int) (i : Nat) : Int := z.getD i 0 % 6
def bF (z : List Int) (l n i : Nat) : Nat := (gU z l i (i : Int) % (n : Int)).toNat
def vF (z : List Int) (l n i : Nat) : Nat := (gU z l i ((i : Int) + 1) % (n : Int)).toNat
theorem VAL.keep3 {w w' : World} {v : Int} {val : Value} {k d : Nat} (h : VAL w v val k d) (hk : ∀ x t cs, At w x t cs → t ≠ 3 → t ≠ 44 → At w' x t cs) : VAL w' v val k d := by
  induction h with
  | id b h => exact .id b (hk _ _ _ h (by decide) (by decide))
  | im b h => exact .im b (hk _ _ _ h (by decide) (by decide))
  | no => exact .no
  | dot b t k d h _ ih => exact .dot b t k d (hk _ _ _ h (by decide) (by decide)) ih
def RowB (w : World) (a : Option Addr) (n : Nat) (z : List Int) : Prop := 0 < n → ∃ b off, a = some ⟨b, off, none⟩ ∧ ∀ i, i < n → w.cell? ⟨b, off + i, none⟩ = some (.int .u8 (z.getD i 0))
theorem RowB.below {w w' : World} {a : Option Addr} {n : Nat} {z : List Int} (h : RowB w a n z) (hb : Below w.heap.size w w') : RowB w' a n z := fun hn => by
  obtain ⟨b, off, e, hc⟩ := h hn
  exact ⟨b, off, e, fun i hi => kept hb (hc i hi)⟩
/-- What was built of the first i statements. -/
structure BS (w0 : World) (S m n l2 l3 : Nat) (z1 z2 z3 : List Int) (dat : Nat → Value) (i : Nat) (w : World) : Prop where
  rs : ∃ cs, At w S 42 cs ∧ cs.size = m * 2 ∧ ∀ q, q < i → cs[q * 2]? = some (dat q) ∧ cs[q * 2 + 1]? = some (.int .i32 (q : Int))
  rk : ∃ cs, At w (S + 1) 3 cs ∧ cs.size = m ∧ ∀ q, q < i → cs[q]? = some (.int .i64 (kF z1 q))
  rb : ∃ cs, At w (S + 1 + 1) 44 cs ∧ cs.size = m ∧ ∀ q, q < i → cs[q]? = some (.int .u32 ((bF z2 l2 n q : Nat) : Int))
  rv : ∃ cs, At w (S + 1 + 1 + 1) 44 cs ∧ cs.size = m
  da : DATS w i (kF z1) (bF z2 l2 n) (vF z3 l3 n) dat
  be : Below w0.heap.size w0 w
  ge : w0.heap.size ≤ S
theorem atCell {w : World} {b t i : Nat} {cs : Array Value} (h : At w b t cs) (hi : i < cs.size) : ∃ x, w.cell? ⟨b, i, none⟩ = some x := ⟨cs[i], by rw [h.cell]; exact Array.getElem?_eq_getElem _⟩
def BSP (m n l2 l3 : Nat) (z1 z2 z3 : List Int) (w0 : World) (e : Ending) (w' : World) : Prop := ∃ S dat, e = .returned (.tuple #[.slice (some ⟨S, 0, none⟩) m m, .slice (some ⟨S + 1, 0, none⟩) m m, .slice (some ⟨S + 1 + 1, 0, none⟩) m m, .slice (some ⟨S + 1 + 1 + 1, 0, none⟩) m m]) ∧ BS w0 S m n l2 l3 z1 z2 z3 dat m w'
def BSrel (w0 : World) (S m n l2 l3 : Nat) (z1 z2 z3 : List Int) (s : Value) (w : World) : Prop := ∃ (i : Nat) (dat : Nat → Value), i ≤ m ∧ s = .int .i64 i ∧ Hid (BS w0 S m n l2 l3 z1 z2 z3 dat i w)
set_option maxRecDepth 100000 in
set_option maxHeartbeats 8000000 in
theorem build (a1 a2 a3 : Option Addr) (m c1 l2 c2 l3 c3 n : Nat) (z1 z2 z3 : List Int) (w : World) (h1 : RowB w a1 m z1) (h2 : RowU w a2 l2 z2) (h3 : RowU w a3 l3 z3) (hm : m ≤ 4096) (hn : 0 < n ∧ n ≤ 4096) (hz1 : ∀ i, 0 ≤ z1.getD i 0 ∧ z1.getD i 0 ≤ 255) (hz2 : ∀ i, 0 ≤ z2.getD i 0 ∧ z2.getD i 0 ≤ 4294967295) (hz3 : ∀ i, 0 ≤ z3.getD i 0 ∧ z3.getD i 0 ≤ 4294967295) :
    Calls Tryd.prog 5 #[.slice a1 m c1, .slice a2 l2 c2, .slice a3 l3 c3, .int .i64 n, .bool false] w (BSP m n l2 l3 z1 z2 z3 w) := by
  have mk1 := made (P := Tryd.prog) (t := 25) (e := 42) (z := .agg #[.nilIface, .int .i32 0]) (sz := 2) (by_ := 24) Tryd.underlying25 (by kernel_rfl) w m (by omega) (by omega)
  have mk2 := fun W => made (P := Tryd.prog) (t := 26) (e := 3) (z := .int .i64 0) (sz := 1) (by_ := 8) Tryd.underlying26 (by kernel_rfl) W m (by omega) (by omega)
  have mk3 := fun W => made (P := Tryd.prog) (t := 22) (e := 44) (z := .int .u32 0) (sz := 1) (by_ := 4) Tryd.underlying22 (by kernel_rfl) W m (by omega) (by omega)
  have HR1 := Lib.hid h1
  have HR2 := Lib.hid h2
  have HR3 := Lib.hid h3
  have HN := Lib.hid (⟨hm, hn.1, hn.2⟩ : m ≤ 4096 ∧ 0 < n ∧ n ≤ 4096)
  have HZ1 := Lib.hid hz1
  have HZ2 := Lib.hid hz2
  have HZ3 := Lib.hid hz3
  clear h1 h2 h3 hz1 hz2 hz3
  have hm0 : (0 : Int) ≤ (m : Int) := Int.natCast_nonneg _
  have hm1 : (m : Int) ≤ 4096 := by omega
  have hn0 : (0 : Int) < (n : Int) := by omega
  have hn1 : (n : Int) ≤ 4096 := by omega
  have HST := Lib.hid (show BS w w.heap.size m n l2 l3 z1 z2 z3 (fun _ => .nilIface) 0 ((((w.alloc (.cells (madeCells (Value.agg #[.nilIface, .int .i32 0]).cells (m * 2)) 42)).alloc (.cells (madeCells (Value.int .i64 0).cells (m * 1)) 3)).alloc (.cells (madeCells (Value.int .u32 0).cells (m * 1)) 44)).alloc (.cells (madeCells (Value.int .u32 0).cells (m * 1)) 44)) from
    ⟨⟨_, ((((At.new w 42 _).alloc _).alloc _).alloc _), by simp [size_madeCells, Value.cells], fun q hq => absurd hq (by omega)⟩, ⟨_, ((at2 w _ 3 _).alloc _).alloc _, by simp [size_madeCells, Value.cells], fun q hq => absurd hq (by omega)⟩, ⟨_, (at3 w _ _ 44 _).alloc _, by simp [size_madeCells, Value.cells], fun q hq => absurd hq (by omega)⟩, ⟨_, at4 w _ _ _ 44 _, by simp [size_madeCells, Value.cells]⟩, fun i hi => absurd hi (by omega), (by repeat (first | with_reducible exact Below.refl _ _ | (with_reducible refine Below.drew ?_) | (with_reducible refine Below.alloc ?_ (by simp; try omega) _) | (with_reducible refine Below.setCell ?_ (by simp; try omega) _))), Nat.le_refl _⟩)
  obtain ⟨S, hS⟩ : ∃ S, S = w.heap.size := ⟨_, rfl⟩
  clear hm hn
  go_enter Tryd.func5, Tryd.ntmps5
  go_wp2_with fail
  rw [← hS] at HST ⊢
  simp only [Nat.mul_one] at HST
  go_loopw [19] (fun s wr => BSrel w S m n l2 l3 z1 z2 z3 s wr) (fun s _ => m - (intOf s).toNat)
  case atStart => exact ⟨0, _, Nat.zero_le _, rfl, HST⟩
  case round =>
    obtain ⟨i, dat, hi, rfl, H⟩ := hrel
    clear HST mk1 mk2 mk3 hS
    have hi0 : (0 : Int) ≤ (i : Int) := Int.natCast_nonneg _
    by_cases hlt : i < m
    · have hlt1 : (i : Int) < (m : Int) := by omega
      obtain ⟨kb, ko, rfl, hkc⟩ := (HR1.out.below H.out.be) (by omega)
      have c0 := hkc i hlt
      have lk := World.block_lt_of_cell? _ _ c0
      obtain ⟨r, hr⟩ : ∃ r, r = z1.getD i 0 := ⟨_, rfl⟩
      rw [← hr] at c0
      have hr0 := HZ1.out i
      rw [← hr] at hr0
      obtain ⟨hr0, hr1⟩ := hr0
      have HRR := Lib.hid hr
      clear hr hkc
      have HK := Lib.hid (fun W => zkind r hr0 W)
      have u1 : Value.int .u32 (IntKind.u32.wrap (i : Int)) = .int .u32 (i : Int) := by rw [IntWalk.u32_in _ (by omega)]
      have u2 : Value.int .u32 (IntKind.u32.wrap ((i : Int) + 1)) = .int .u32 ((i : Int) + 1) := by rw [IntWalk.u32_in _ (by omega)]
      have u3 : Value.int .u32 (IntKind.u32.wrap (n : Int)) = .int .u32 (n : Int) := by rw [IntWalk.u32_in _ (by omega)]
      have HG2 := Lib.hid (fun d => getU a2 l2 c2 z2 i d wr (HR2.out.below H.out.be))
      have HG3 := Lib.hid (fun d => getU a3 l3 c3 z3 i d wr (HR3.out.below H.out.be))
      go_wp2_with fail
      refine (HK.out _).mono ?_
      rintro e w1 ⟨rfl, rfl⟩
      go_wp2_with fail
      refine (HG2.out _).mono ?_
      rintro e w1 ⟨rfl, rfl⟩
      obtain ⟨bN, hbN⟩ : ∃ bN : Nat, bN = bF z2 l2 n i := ⟨_, rfl⟩
      obtain ⟨vN, hvN⟩ : ∃ vN : Nat, vN = vF z3 l3 n i := ⟨_, rfl⟩
      obtain ⟨dp, hdp⟩ : ∃ dp : Nat, dp = (r / 6 % 3).toNat := ⟨_, rfl⟩
      have tb : Value.int .u32 ((gU z2 l2 i (i : Int)).tmod (n : Int)) = .int .u32 (bN : Int) := by
        have hg : 0 ≤ gU z2 l2 i (i : Int) := by unfold gU; split; · exact (HZ2.out i).1
                                                 · exact hi0
        rw [hbN, bF, Int.tmod_eq_emod_of_nonneg hg, Int.toNat_of_nonneg (Int.emod_nonneg _ (by omega))]
      have tv : Value.int .u32 ((gU z3 l3 i ((i : Int) + 1)).tmod (n : Int)) = .int .u32 (vN : Int) := by
        have hg : 0 ≤ gU z3 l3 i ((i : Int) + 1) := by unfold gU; split; · exact (HZ3.out i).1
                                                       · omega
        rw [hvN, vF, Int.tmod_eq_emod_of_nonneg hg, Int.toNat_of_nonneg (Int.emod_nonneg _ (by omega))]
      have td : Value.int .i64 (r / 6 % 3) = .int .i64 (dp : Int) := by rw [hdp, Int.toNat_of_nonneg (by omega)]
      have HBN := Lib.hid (⟨hbN, hvN, by omega⟩ : bN = bF z2 l2 n i ∧ vN = vF z3 l3 n i ∧ dp ≤ 2)
      clear hbN hvN hdp
      obtain ⟨cs, hA0, hA0s, hA0q⟩ := H.out.rs
      obtain ⟨ck, hA1, hA1s, hA1q⟩ := H.out.rk
      obtain ⟨cb, hA2, hA2s, hA2q⟩ := H.out.rb
      obtain ⟨cv, hA3, hA3s⟩ := H.out.rv
      obtain ⟨y1, x1⟩ := atCell hA1 (show i < ck.size by omega)
      obtain ⟨y2, x2⟩ := atCell hA2 (show i < cb.size by omega)
      obtain ⟨y3, x3⟩ := atCell hA3 (show i < cv.size by omega)
      have xf1 := hA1.frozen i
      have xf2 := hA2.frozen i
      have xf3 := hA3.frozen i
      have ls1 := hA1.lt
      have ls2 := hA2.lt
      have ls3 := hA3.lt
      have HA0 := Lib.hid (⟨hA0, hA0s, hA0q⟩ : At wr S 42 cs ∧ cs.size = m * 2 ∧ ∀ q, q < i → cs[q * 2]? = some (dat q) ∧ cs[q * 2 + 1]? = some (.int .i32 (q : Int)))
      have HA1 := Lib.hid (⟨hA1, hA1s, hA1q⟩ : At wr (S + 1) 3 ck ∧ ck.size = m ∧ ∀ q, q < i → ck[q]? = some (.int .i64 (kF z1 q)))
      have HA2 := Lib.hid (⟨hA2, hA2s, hA2q⟩ : At wr (S + 1 + 1) 44 cb ∧ cb.size = m ∧ ∀ q, q < i → cb[q]? = some (.int .u32 ((bF z2 l2 n q : Nat) : Int)))
      have HA3 := Lib.hid (⟨hA3, hA3s⟩ : At wr (S + 1 + 1 + 1) 44 cv ∧ cv.size = m)
      clear hA0 hA0s hA0q hA1 hA1s hA1q hA2 hA2s hA2q hA3 hA3s
      go_wp2_with fail
      refine (HG3.out _).mono ?_
      rintro e w1 ⟨rfl, rfl⟩
      have HZS := Lib.hid (fun W => zstmt (r % 6) i (bN : Int) (vN : Int) dp W (by omega) HBN.out.2.2 (by omega))
      go_wp2_with fail
      refine (HZS.out _).mono ?_
      rintro e w4 ⟨T, q, rfl, hstd, hb4⟩
      obtain ⟨w3, hw3⟩ : ∃ w3, w3 = ((wr.setCell ⟨S + 1, i, none⟩ (.int .i64 (r % 6))).setCell ⟨S + 1 + 1, i, none⟩ (.int .u32 (bN : Int))).setCell ⟨S + 1 + 1 + 1, i, none⟩ (.int .u32 (vN : Int)) := ⟨_, rfl⟩
      have sz3 : w3.heap.size = wr.heap.size := by rw [hw3]; simp [World.setCell]
      have hk3 : ∀ x, x ≠ S + 1 → x ≠ S + 1 + 1 → x ≠ S + 1 + 1 + 1 → w3.heap[x]? = wr.heap[x]? := fun x h1 h2 h3 => by
        rw [hw3, Below.heap_setCell _ _ _ x (by simpa using h3), Below.heap_setCell _ _ _ x (by simpa using h2), Below.heap_setCell _ _ _ x (by simpa using h1)]
      have B0 : At w3 S 42 cs := (hk3 S (by omega) (by omega) (by omega)).trans HA0.out.1
      have B1 : At w3 (S + 1) 3 (ck.setIfInBounds i (.int .i64 (r % 6))) := by rw [hw3]; exact ((HA1.out.1.set i _).far (by simp <;> omega) _).far (by simp <;> omega) _
      have B2 : At w3 (S + 1 + 1) 44 (cb.setIfInBounds i (.int .u32 (bN : Int))) := by rw [hw3]; exact ((HA2.out.1.far (by simp) _).set i _).far (by simp) _
      have B3 : At w3 (S + 1 + 1 + 1) 44 (cv.setIfInBounds i (.int .u32 (vN : Int))) := by rw [hw3]; exact ((HA3.out.1.far (by simp <;> omega) _).far (by simp <;> omega) _).set i _
      rw [← hw3] at hb4
      have kx3 : ∀ j, j < i → STD w3 (kF z1 j) (bF z2 l2 n j : Int) (vF z3 l3 n j : Int) (dat j) := fun j hj => by
        rcases (H.out.da j hj).1 with h | ⟨h0, sl, val, d, e, hl, hv⟩
        · exact .inl h
        · have kxx : KX wr w3 ∨ True := .inr trivial
          refine .inr ⟨h0, sl, val, d, e, ?_, ?_⟩
          · obtain ⟨dl, bl, lo, g1, g2, g3⟩ := hl
            exact ⟨dl, bl, lo, (hk3 _ (atNe g1 HA1.out.1 (by decide)) (atNe g1 HA2.out.1 (by decide)) (atNe g1 HA3.out.1 (by decide))).trans g1, (hk3 _ (atNe g2 HA1.out.1 (by decide)) (atNe g2 HA2.out.1 (by decide)) (atNe g2 HA3.out.1 (by decide))).trans g2, (hk3 _ (atNe g3 HA1.out.1 (by decide)) (atNe g3 HA2.out.1 (by decide)) (atNe g3 HA3.out.1 (by decide))).trans g3⟩
          · exact hv.keep3 (fun x t c g h1 h2 => (hk3 x (atNe g HA1.out.1 h1) (atNe g HA2.out.1 h2) (atNe g HA3.out.1 h2)).trans g)
      have HB3 := Lib.hid (show Below w.heap.size w w3 from by
        rw [hw3]
        have := H.out.ge
        exact ((H.out.be.setCell (by simp <;> omega) _).setCell (by simp <;> omega) _).setCell (by simp <;> omega) _)
      have HB4 := Lib.hid (HB3.out.trans (hb4.mono HB3.out.size))
      have C0 := B0.below hb4 B0.lt
      have HC0 := Lib.hid C0
      have HC1 := Lib.hid (B1.below hb4 B1.lt)
      have HC2 := Lib.hid (B2.below hb4 B2.lt)
      have HC3 := Lib.hid (B3.below hb4 B3.lt)
      have HD := Lib.hid (fun j hj => (kx3 j hj).keep (KX.below hb4))
      have HSTD := Lib.hid hstd
      obtain ⟨y4, x4⟩ := atCell C0 (show i * 2 < cs.size by have := HA0.out.2.1; omega)
      obtain ⟨y5, x5⟩ := atCell C0 (show i * 2 + 1 < cs.size by have := HA0.out.2.1; omega)
      have xf4 := C0.frozen (i * 2)
      have xf5 := C0.frozen (i * 2 + 1)
      have ls4 := C0.lt
      clear C0 hw3 sz3 hk3 B0 B1 B2 B3 kx3 hb4 hstd x1 x2 x3 xf1 xf2 xf3 ls1 ls2 ls3 c0 lk tb tv td u1 u2 u3
      go_wp2_with fail
      go_roundw
      case rel =>
        refine ⟨i + 1, fun j => if j = i then .iface T (.pointer q) else dat j, by omega, by go_num, Lib.hid ⟨?_, ?_, ?_, ?_, ?_, ?_, H.out.ge⟩⟩
        · refine ⟨_, (HC0.out.set (i * 2) _).set (i * 2 + 1) _, by simp [HA0.out.2.1], fun q' hq' => ?_⟩
          have hsz := HA0.out.2.1
          by_cases e : q' = i
          · subst e
            refine ⟨?_, ?_⟩
            · rw [Array.getElem?_setIfInBounds_ne (by omega), Array.getElem?_setIfInBounds_self_of_lt (by omega)]
              simp
            · rw [Array.getElem?_setIfInBounds_self_of_lt (by simp; omega)]
          · have := HA0.out.2.2 q' (by omega)
            refine ⟨?_, ?_⟩
            · rw [Array.getElem?_setIfInBounds_ne (by omega), Array.getElem?_setIfInBounds_ne (by omega), this.1]
              simp [e]
            · rw [Array.getElem?_setIfInBounds_ne (by omega), Array.getElem?_setIfInBounds_ne (by omega), this.2]
        · refine ⟨_, (HC1.out.far (by simp) _).far (by simp) _, by simp [HA1.out.2.1], fun q' hq' => ?_⟩
          have hsz := HA1.out.2.1
          by_cases e : q' = i
          · subst e
            rw [Array.getElem?_setIfInBounds_self_of_lt (by omega), kF, ← HRR.out]
          · rw [Array.getElem?_setIfInBounds_ne (by omega)]
            exact HA1.out.2.2 q' (by omega)
        · refine ⟨_, (HC2.out.far (by simp <;> omega) _).far (by simp <;> omega) _, by simp [HA2.out.2.1], fun q' hq' => ?_⟩
          have hsz := HA2.out.2.1
          by_cases e : q' = i
          · subst e
            rw [Array.getElem?_setIfInBounds_self_of_lt (by omega), HBN.out.1]
          · rw [Array.getElem?_setIfInBounds_ne (by omega)]
            exact HA2.out.2.2 q' (by omega)
        · exact ⟨_, (HC3.out.far (by simp <;> omega) _).far (by simp <;> omega) _, by simp [HA3.out.2]⟩
        · have hkx : KX w4 ((w4.setCell ⟨S, i * 2, none⟩ (.iface T (.pointer q))).setCell ⟨S, i * 2 + 1, none⟩ (.int .i32 (i : Int))) := fun x t c g h1 h2 h3 => (g.far (by simpa using atNe g HC0.out h2) _).far (by simpa using atNe g HC0.out h2) _
          intro j hj
          by_cases e : j = i
          · subst e
            simp only [if_pos]
            refine ⟨?_, _, _, rfl⟩
            have := HSTD.out.keep hkx
            rw [HBN.out.1, HBN.out.2.1] at this
            rw [kF, ← HRR.out]
            exact this
          · simp only [if_neg e]
            exact ⟨(HD.out j (by omega)).keep hkx, (H.out.da j (by omega)).2⟩
        · have := H.out.ge
          exact (HB4.out.setCell (by simpa using this) _).setCell (by simpa using this) _
      case measure => simp [intOf]; omega
    · obtain rfl : i = m := by omega
      have hlt1 : ¬ (i : Int) < (i : Int) := by omega
      clear hlt
      go_wp2_with fail
      exact bodyPost_ret (v := .tuple #[.slice (some ⟨S, 0, none⟩) i i, .slice (some ⟨S + 1, 0, none⟩) i i, .slice (some ⟨S + 1 + 1, 0, none⟩) i i, .slice (some ⟨S + 1 + 1 + 1, 0, none⟩) i i]) (by simp [results, Tryd.results5, go_sem, *]) rfl ⟨S, dat, rfl, H.out⟩
end UX
end Go.Proofs.YthgcchgpplblbaaDoor
