/- Proved here: small contracts of the law FnScanUnusedTSImportEqualsFixedPoint. Conditions as stated. -/
import Derived.Test.YthgcchgpplblbaaDoorBase
import Derived.WalkKit
import Derived.WalkSpells
import Derived.WalkLawsBesides
import Derived.Lib.Hide
import Derived.Lib.SliceRun
import Derived.Deep.RegionWith
import Derived.OwnWalk
import Derived.Laws.OwnMore
import Derived.BigRegion
import Derived.Carry
namespace Go.Proofs.YthgcchgpplblbaaDoor
open Go.RowKit
set_option linter.unusedSimpArgs false
set_option linter.unusedVariables false

namespace UX
theorem atNe {w : World} {a b : Nat} {t t' : TypeId} {cs cs' : Array Value} (h : At w a t cs) (h' : At w b t' cs') (ht : t ≠ t') : a ≠ b := by
  intro e
  subst e
  unfold At at h h'
  rw [h] at h'
  simp only [Option.some.injEq, Obj.cells.injEq] at h'
  exact ht h'.2.1
theorem at2 (w : World) (o1 : Obj) (t : TypeId) (cs : Array Value) : At ((w.alloc o1).alloc (.cells cs t)) (w.heap.size + 1) t cs := by
  have := At.new (w.alloc o1) t cs
  rwa [show (w.alloc o1).heap.size = w.heap.size + 1 from by simp] at this
theorem at3 (w : World) (o1 o2 : Obj) (t : TypeId) (cs : Array Value) : At (((w.alloc o1).alloc o2).alloc (.cells cs t)) (w.heap.size + 1 + 1) t cs := by
  have := at2 (w.alloc o1) o2 t cs
  rwa [show (w.alloc o1).heap.size = w.heap.size + 1 from by simp] at this
theorem at4 (w : World) (o1 o2 o3 : Obj) (t : TypeId) (cs : Array Value) : At ((((w.alloc o1).alloc o2).alloc o3).alloc (.cells cs t)) (w.heap.size + 1 + 1 + 1) t cs := by
  have := at3 (w.alloc o1) o2 o3 t cs
  rwa [show (w.alloc o1).heap.size = w.heap.size + 1 from by simp] at this
def KX (w w' : World) : Prop := ∀ x t cs, At w x t cs → t ≠ 54 → t ≠ 42 → t ≠ 178 → At w' x t cs
theorem KX.below {w w' : World} (hb : Below w.heap.size w w') : KX w w' := fun x t cs h _ _ _ => h.below hb h.lt
theorem KX.trans {a b c : World} (h1 : KX a b) (h2 : KX b c) : KX a c := fun x t cs h e1 e2 e3 => h2 x t cs (h1 x t cs h e1 e2 e3) e1 e2 e3
theorem KX.refl (w : World) : KX w w := fun x t cs h _ _ _ => h
/-- The value of a declaration: kind 1 an identifier, 2 an import's identifier, 5 none; d dots above. -/
inductive VAL (w : World) (v : Int) : Value → Nat → Nat → Prop
  | id (b : Nat) (h : At w b 214 #[.int .u32 0, .int .u32 v, .bool false, .bool false, .bool false]) : VAL w v (.iface 212 (.pointer (some ⟨b, 0, none⟩))) 1 0
  | im (b : Nat) (h : At w b 217 #[.int .u32 0, .int .u32 v, .bool false, .bool false]) : VAL w v (.iface 215 (.pointer (some ⟨b, 0, none⟩))) 2 0
  | no : VAL w v .nilIface 5 0
  | dot (b : Nat) (t : Value) (k d : Nat) (h : At w b 211 #[t, .int .i32 0, .string ⟨#[120]⟩, .int .i32 0, .int .u8 0, .bool false, .bool false, .bool false]) (r : VAL w v t k d) : VAL w v (.iface 207 (.pointer (some ⟨b, 0, none⟩))) k (d + 1)
theorem VAL.keep {w w' : World} {v : Int} {val : Value} {k d : Nat} (h : VAL w v val k d) (hk : KX w w') : VAL w' v val k d := by
  induction h with
  | id b h => exact .id b (hk _ _ _ h (by decide) (by decide) (by decide))
  | im b h => exact .im b (hk _ _ _ h (by decide) (by decide) (by decide))
  | no => exact .no
  | dot b t k d h _ ih => exact .dot b t k d (hk _ _ _ h (by decide) (by decide) (by decide)) ih
theorem VAL.form {w : World} {v : Int} {val : Value} {k d : Nat} (h : VAL w v val k d) : val = .nilIface ∨ ∃ t b, val = .iface t (.pointer (some ⟨b, 0, none⟩)) := by
  cases h with
  | id b _ => exact .inr ⟨_, _, rfl⟩
  | im b _ => exact .inr ⟨_, _, rfl⟩
  | no => exact .inl rfl
  | dot b _ _ _ _ _ => exact .inr ⟨_, _, rfl⟩
theorem VAL.ne {w w' : World} {v : Int} {val : Value} {k d q : Nat} {cq : Array Value} (h : VAL w v val k d) (hq : At w q 154 cq) (hk : ∀ x, x ≠ q → w'.heap[x]? = w.heap[x]?) : VAL w' v val k d := by
  induction h with
  | id b h => exact .id b ((hk b (atNe h hq (by decide))).trans h)
  | im b h => exact .im b ((hk b (atNe h hq (by decide))).trans h)
  | no => exact .no
  | dot b t k d h _ ih => exact .dot b t k d ((hk b (atNe h hq (by decide))).trans h) ih
theorem VAL.far154 {w : World} {v : Int} {val : Value} {k d q : Nat} {cq : Array Value} (h : VAL w v val k d) (x y : Value) (hq : At w q 154 cq) : VAL ((w.setCell ⟨q, 0, none⟩ x).setCell ⟨q, 1, none⟩ y) v val k d :=
  h.ne hq (fun z hz => by rw [Below.heap_setCell _ _ _ z (by simpa using hz), Below.heap_setCell _ _ _ z (by simpa using hz)])
def LOC (w : World) (sl : Nat) (ie ex : Bool) (b : Int) (val : Value) : Prop := ∃ dl bl lo, At w sl 204 #[.slice (some ⟨dl, 0, none⟩) 1 1, .int .u8 0, .bool ex, .bool ie] ∧ At w dl 200 #[.iface 192 (.pointer (some ⟨bl, 0, none⟩)), .int .i32 lo, val, .int .i32 0] ∧ At w bl 194 #[.int .u32 0, .int .u32 b]
theorem LOC.keep {w w' : World} {sl : Nat} {ie ex : Bool} {b : Int} {val : Value} (h : LOC w sl ie ex b val) (hk : KX w w') : LOC w' sl ie ex b val := by
  obtain ⟨dl, bl, lo, h1, h2, h3⟩ := h
  exact ⟨dl, bl, lo, hk _ _ _ h1 (by decide) (by decide) (by decide), hk _ _ _ h2 (by decide) (by decide) (by decide), hk _ _ _ h3 (by decide) (by decide) (by decide)⟩
def ieOf (kd : Int) : Bool := kd == 1 || kd == 2 || kd == 3 || kd == 5
def vkOf (kd : Int) : Nat := if kd = 2 then 2 else if kd = 5 then 5 else 1
/-- A statement's data, by its kind. -/
def STD (w : World) (kd b v : Int) (dat : Value) : Prop := (kd = 0 ∧ ∃ q, dat = .iface 189 q) ∨ (kd ≠ 0 ∧ ∃ sl val d, dat = .iface 181 (.pointer (some ⟨sl, 0, none⟩)) ∧ LOC w sl (ieOf kd) (kd == 3) b val ∧ VAL w v val (vkOf kd) d)
theorem STD.keep {w w' : World} {kd b v : Int} {dat : Value} (h : STD w kd b v dat) (hk : KX w w') : STD w' kd b v dat := by
  rcases h with h | ⟨h0, sl, val, d, e, h1, h2⟩
  · exact .inl h
  · exact .inr ⟨h0, sl, val, d, e, h1.keep hk, h2.keep hk⟩
theorem zkind (r : Int) (h : 0 ≤ r) (w : World) : Calls Tryd.prog 10 #[.int .u8 r, .bool false] w fun e w' => e = .returned (.int .i64 (r % 6)) ∧ w = w' := by
  go_enter Tryd.func10, Tryd.ntmps10
  go_wp2_with fail
  go_ret
  exact ⟨rfl, rfl⟩
def RowU (w : World) (a : Option Addr) (n : Nat) (z : List Int) : Prop := 0 < n → ∃ b off, a = some ⟨b, off, none⟩ ∧ ∀ i, i < n → w.cell? ⟨b, off + i, none⟩ = some (.int .u32 (z.getD i 0))
theorem RowU.below {w w' : World} {a : Option Addr} {n : Nat} {z : List Int} (h : RowU w a n z) (hb : Below w.heap.size w w') : RowU w' a n z := fun hn => by
  obtain ⟨b, off, e, hc⟩ := h hn
  exact ⟨b, off, e, fun i hi => kept hb (hc i hi)⟩
def gU (z : List Int) (n i : Nat) (d : Int) : Int := if i < n then z.getD i 0 else d
theorem getU (a : Option Addr) (n c : Nat) (z : List Int) (i : Nat) (d : Int) (w : World) (h : RowU w a n z) : Calls Tryd.prog 11 #[.slice a n c, .int .i64 i, .int .u32 d] w fun e w' => e = .returned (.int .u32 (gU z n i d)) ∧ w = w' := by
  have hi0 : (0 : Int) ≤ (i : Int) := Int.natCast_nonneg _
  by_cases hi : i < n
  · obtain ⟨b, off, rfl, hc⟩ := h (by omega)
    have c0 := hc i hi
    have lb := World.block_lt_of_cell? _ _ c0
    have hi1 : (i : Int) < (n : Int) := by omega
    clear hc h
    go_enter Tryd.func11, Tryd.ntmps11
    go_wp2_with fail
    go_ret
    exact ⟨by simp [gU, hi], rfl⟩
  · have hi1 : ¬ (i : Int) < (n : Int) := by omega
    clear h
    go_enter Tryd.func11, Tryd.ntmps11
    go_wp2_with fail
    go_ret
    exact ⟨by simp [gU, hi], rfl⟩
def VPI (v : Int) (k d : Nat) (w : World) (e : Ending) (w' : World) : Prop := ∃ T b, e = .returned (.agg #[.iface T (.pointer (some ⟨b, 0, none⟩)), .int .i32 0]) ∧ VAL w' v (.iface T (.pointer (some ⟨b, 0, none⟩))) k d ∧ Below w.heap.size w w'
def VP (v : Int) (k d : Nat) (w : World) (e : Ending) (w' : World) : Prop := ∃ val, e = .returned (.agg #[val, .int .i32 0]) ∧ VAL w' v val k d ∧ Below w.heap.size w w'
set_option maxRecDepth 100000 in
theorem mkId (v : Int) (w : World) : Calls Tryd.prog 21 #[.int .u32 v] w (VPI v 1 0 w) := by
  go_enter Tryd.func21, Tryd.ntmps21
  go_wp2_with fail
  refine bodyPost_ret (v := .agg #[.iface 212 (.pointer (some ⟨w.heap.size + 1, 0, none⟩)), .int .i32 0]) (by simp [results, Tryd.results21, go_sem, *]) rfl ⟨_, _, rfl, .id _ ?_, (by repeat (first | with_reducible exact Below.refl _ _ | (with_reducible refine Below.drew ?_) | (with_reducible refine Below.alloc ?_ (by simp; try omega) _) | (with_reducible refine Below.setCell ?_ (by simp; try omega) _)))⟩
  exact at2 _ _ _ _
set_option maxRecDepth 100000 in
theorem mkIm (v : Int) (w : World) : Calls Tryd.prog 20 #[.int .u32 v] w (VPI v 2 0 w) := by
  go_enter Tryd.func20, Tryd.ntmps20
  go_wp2_with fail
  refine bodyPost_ret (v := .agg #[.iface 215 (.pointer (some ⟨w.heap.size + 1, 0, none⟩)), .int .i32 0]) (by simp [results, Tryd.results20, go_sem, *]) rfl ⟨_, _, rfl, .im _ ?_, (by repeat (first | with_reducible exact Below.refl _ _ | (with_reducible refine Below.drew ?_) | (with_reducible refine Below.alloc ?_ (by simp; try omega) _) | (with_reducible refine Below.setCell ?_ (by simp; try omega) _)))⟩
  exact at2 _ _ _ _
set_option maxRecDepth 100000 in
theorem mkDot (v : Int) (k d : Nat) (t : Value) (w : World) (h : VAL w v t k d) : Calls Tryd.prog 22 #[.agg #[t, .int .i32 0]] w (VPI v k (d + 1) w) := by
  have H := Lib.hid h
  clear h
  go_enter Tryd.func22, Tryd.ntmps22
  go_wp2_with fail
  refine bodyPost_ret (v := .agg #[.iface 207 (.pointer (some ⟨w.heap.size + 1 + 1, 0, none⟩)), .int .i32 0]) (by simp [results, Tryd.results22, go_sem, *]) rfl ⟨_, _, rfl, .dot _ t k d (at3 _ _ _ _ _) (H.out.keep (KX.below (by repeat (first | with_reducible exact Below.refl _ _ | (with_reducible refine Below.drew ?_) | (with_reducible refine Below.alloc ?_ (by simp; try omega) _) | (with_reducible refine Below.setCell ?_ (by simp; try omega) _))))), (by repeat (first | with_reducible exact Below.refl _ _ | (with_reducible refine Below.drew ?_) | (with_reducible refine Below.alloc ?_ (by simp; try omega) _) | (with_reducible refine Below.setCell ?_ (by simp; try omega) _)))⟩
def VLrel (v : Int) (k : Nat) (w0 w : World) (q : Nat) (dp : Nat) (s8 : Value) (wr : World) : Prop := ∃ (j : Nat) (val : Value), j ≤ dp ∧ s8 = .int .i64 j ∧ Hid (At wr q 154 #[val, .int .i32 0] ∧ VAL wr v val k j ∧ Below w.heap.size w wr) ∧ Hid (At wr w.heap.size 154 #[.nilIface, .int .i32 0])
set_option maxRecDepth 100000 in
set_option maxHeartbeats 4000000 in
theorem zval (kd v : Int) (dp : Nat) (w : World) (hdp : dp ≤ 2) (hk : kd = 1 ∨ kd = 2 ∨ kd = 3 ∨ kd = 4 ∨ kd = 5) : Calls Tryd.prog 17 #[.int .i64 kd, .int .u32 v, .int .i64 dp] w (VP v (vkOf kd) dp w) := by
  have hd0 : (0 : Int) ≤ (dp : Int) := Int.natCast_nonneg _
  have HID := Lib.hid (mkId v)
  have HIM := Lib.hid (mkIm v)
  rcases hk with rfl | rfl | rfl | rfl | rfl
  · go_enter Tryd.func17, Tryd.ntmps17
    go_wp2_with fail
    refine (HID.out _).mono ?_
    rintro e w1 ⟨T0, b0, rfl, hv0, hb0⟩
    have HA0 := (at2 w (.cells #[.nilIface, .int .i32 0] 154) 154 #[.nilIface, .int .i32 0]).below hb0 (by simp)
    have d0 : w1.cell? ⟨w.heap.size + 1, 0, none⟩ = some .nilIface := by rw [HA0.cell]; rfl
    have d1 : w1.cell? ⟨w.heap.size + 1, 1, none⟩ = some (.int .i32 0) := by rw [HA0.cell]; rfl
    have g0 := HA0.frozen 0
    have g1 := HA0.frozen 1
    have lq1 := HA0.lt
    have HAx := Lib.hid HA0
    have HA6 := Lib.hid (((At.new w 154 #[.nilIface, .int .i32 0]).alloc (.cells #[.nilIface, .int .i32 0] 154)).below hb0 (by simp; omega))
    have HV := Lib.hid hv0
    have HB := Lib.hid (show Below w.heap.size w w1 from (((Below.refl _ w).alloc (Nat.le_refl _) _).alloc (by simp) _).trans (hb0.mono (by simp; omega)))
    clear HA0 hv0 hb0
    go_wp2_with fail
    go_loopw [8] (fun i wr => VLrel v 1 w w (w.heap.size + 1) dp i wr) (fun i _ => dp - (intOf i).toNat)
    case atStart => exact ⟨0, _, Nat.zero_le _, rfl, Lib.hid ⟨(HAx.out.set 0 (.iface T0 (.pointer (some ⟨b0, 0, none⟩)))).set 1 (.int .i32 0), HV.out.far154 _ _ HAx.out, (HB.out.setCell (by simp) _).setCell (by simp) _⟩, Lib.hid (HA6.out.far (by simp) _).far (by simp) _⟩
    case round =>
      obtain ⟨j, val, hj, rfl, H, H6⟩ := hrel
      have hj0 : (0 : Int) ≤ (j : Int) := Int.natCast_nonneg _
      by_cases hlt : j < dp
      · have hlt1 : (j : Int) < (dp : Int) := by omega
        have c0 : wr.cell? ⟨w.heap.size + 1, 0, none⟩ = some val := by rw [H.out.1.cell]; rfl
        have c1 : wr.cell? ⟨w.heap.size + 1, 1, none⟩ = some (.int .i32 0) := by rw [H.out.1.cell]; rfl
        have f0 := H.out.1.frozen 0
        have f1 := H.out.1.frozen 1
        have lq := H.out.1.lt
        have HD := Lib.hid (mkDot v 1 j val wr H.out.2.1)
        go_wp2_with fail
        refine HD.out.mono ?_
        rintro e w1 ⟨T1, b1, rfl, hv1, hb1⟩
        have HA := Lib.hid (H.out.1.below hb1 lq)
        have H6X := Lib.hid (H6.out.below hb1 H6.out.lt)
        have d0 : w1.cell? ⟨w.heap.size + 1, 0, none⟩ = some val := by rw [HA.out.cell]; rfl
        have d1 : w1.cell? ⟨w.heap.size + 1, 1, none⟩ = some (.int .i32 0) := by rw [HA.out.cell]; rfl
        have g0 := HA.out.frozen 0
        have g1 := HA.out.frozen 1
        have lq1 := HA.out.lt
        have HV := Lib.hid hv1
        have HB := Lib.hid (H.out.2.2.trans (hb1.mono H.out.2.2.size))
        clear c0 c1 f0 f1 lq hv1 hb1 HD
        go_wp2_with fail
        go_roundw
        case rel =>
          refine ⟨j + 1, .iface T1 (.pointer (some ⟨b1, 0, none⟩)), by omega, by go_num, Lib.hid ⟨?_, ?_, ?_⟩, Lib.hid ?_⟩
          · exact (HA.out.set 0 (.iface T1 (.pointer (some ⟨b1, 0, none⟩)))).set 1 (.int .i32 0)
          · exact HV.out.far154 _ _ HA.out
          · exact (HB.out.setCell (by simp) _).setCell (by simp) _
          · exact (H6X.out.far (by simp) _).far (by simp) _
        case measure => simp [intOf]; omega
      · obtain rfl : j = dp := by omega
        have hlt1 : ¬ (j : Int) < (j : Int) := by omega
        have q0 : wr.cell? ⟨w.heap.size, 0, none⟩ = some .nilIface := by rw [H6.out.cell]; rfl
        have q1 : wr.cell? ⟨w.heap.size, 1, none⟩ = some (.int .i32 0) := by rw [H6.out.cell]; rfl
        have h0 := H6.out.frozen 0
        have h1 := H6.out.frozen 1
        have l6 := H6.out.lt
        have lq := H.out.1.lt
        have hne : ¬ w.heap.size + 1 = w.heap.size := by omega
        have HAT := Lib.hid H.out.1
        have HV := Lib.hid H.out.2.1
        have HB := Lib.hid H.out.2.2
        clear H
        rcases HV.out.form with rfl | ⟨T2, b2, rfl⟩
        · have c0 : wr.cell? ⟨w.heap.size + 1, 0, none⟩ = some .nilIface := by rw [HAT.out.cell]; rfl
          have c1 : wr.cell? ⟨w.heap.size + 1, 1, none⟩ = some (.int .i32 0) := by rw [HAT.out.cell]; rfl
          go_wp2_with fail
          refine bodyPost_ret (v := .agg #[.nilIface, .int .i32 0]) (by simp [results, Tryd.results17, go_sem, *]) rfl ⟨_, rfl, HV.out.far154 _ _ H6.out, (HB.out.setCell (by simp) _).setCell (by simp) _⟩
        · have c0 : wr.cell? ⟨w.heap.size + 1, 0, none⟩ = some (.iface T2 (.pointer (some ⟨b2, 0, none⟩))) := by rw [HAT.out.cell]; rfl
          have c1 : wr.cell? ⟨w.heap.size + 1, 1, none⟩ = some (.int .i32 0) := by rw [HAT.out.cell]; rfl
          go_wp2_with fail
          refine bodyPost_ret (v := .agg #[.iface T2 (.pointer (some ⟨b2, 0, none⟩)), .int .i32 0]) (by simp [results, Tryd.results17, go_sem, *]) rfl ⟨_, rfl, HV.out.far154 _ _ H6.out, (HB.out.setCell (by simp) _).setCell (by simp) _⟩
  · go_enter Tryd.func17, Tryd.ntmps17
    go_wp2_with fail
    refine (HIM.out _).mono ?_
    rintro e w1 ⟨T0, b0, rfl, hv0, hb0⟩
    have HA0 := (at2 w (.cells #[.nilIface, .int .i32 0] 154) 154 #[.nilIface, .int .i32 0]).below hb0 (by simp)
    have d0 : w1.cell? ⟨w.heap.size + 1, 0, none⟩ = some .nilIface := by rw [HA0.cell]; rfl
    have d1 : w1.cell? ⟨w.heap.size + 1, 1, none⟩ = some (.int .i32 0) := by rw [HA0.cell]; rfl
    have g0 := HA0.frozen 0
    have g1 := HA0.frozen 1
    have lq1 := HA0.lt
    have HAx := Lib.hid HA0
    have HA6 := Lib.hid (((At.new w 154 #[.nilIface, .int .i32 0]).alloc (.cells #[.nilIface, .int .i32 0] 154)).below hb0 (by simp; omega))
    have HV := Lib.hid hv0
    have HB := Lib.hid (show Below w.heap.size w w1 from (((Below.refl _ w).alloc (Nat.le_refl _) _).alloc (by simp) _).trans (hb0.mono (by simp; omega)))
    clear HA0 hv0 hb0
    go_wp2_with fail
    go_loopw [8] (fun i wr => VLrel v 2 w w (w.heap.size + 1) dp i wr) (fun i _ => dp - (intOf i).toNat)
    case atStart => exact ⟨0, _, Nat.zero_le _, rfl, Lib.hid ⟨(HAx.out.set 0 (.iface T0 (.pointer (some ⟨b0, 0, none⟩)))).set 1 (.int .i32 0), HV.out.far154 _ _ HAx.out, (HB.out.setCell (by simp) _).setCell (by simp) _⟩, Lib.hid (HA6.out.far (by simp) _).far (by simp) _⟩
    case round =>
      obtain ⟨j, val, hj, rfl, H, H6⟩ := hrel
      have hj0 : (0 : Int) ≤ (j : Int) := Int.natCast_nonneg _
      by_cases hlt : j < dp
      · have hlt1 : (j : Int) < (dp : Int) := by omega
        have c0 : wr.cell? ⟨w.heap.size + 1, 0, none⟩ = some val := by rw [H.out.1.cell]; rfl
        have c1 : wr.cell? ⟨w.heap.size + 1, 1, none⟩ = some (.int .i32 0) := by rw [H.out.1.cell]; rfl
        have f0 := H.out.1.frozen 0
        have f1 := H.out.1.frozen 1
        have lq := H.out.1.lt
        have HD := Lib.hid (mkDot v 2 j val wr H.out.2.1)
        go_wp2_with fail
        refine HD.out.mono ?_
        rintro e w1 ⟨T1, b1, rfl, hv1, hb1⟩
        have HA := Lib.hid (H.out.1.below hb1 lq)
        have H6X := Lib.hid (H6.out.below hb1 H6.out.lt)
        have d0 : w1.cell? ⟨w.heap.size + 1, 0, none⟩ = some val := by rw [HA.out.cell]; rfl
        have d1 : w1.cell? ⟨w.heap.size + 1, 1, none⟩ = some (.int .i32 0) := by rw [HA.out.cell]; rfl
        have g0 := HA.out.frozen 0
        have g1 := HA.out.frozen 1
        have lq1 := HA.out.lt
        have HV := Lib.hid hv1
        have HB := Lib.hid (H.out.2.2.trans (hb1.mono H.out.2.2.size))
        clear c0 c1 f0 f1 lq hv1 hb1 HD
        go_wp2_with fail
        go_roundw
        case rel =>
          refine ⟨j + 1, .iface T1 (.pointer (some ⟨b1, 0, none⟩)), by omega, by go_num, Lib.hid ⟨?_, ?_, ?_⟩, Lib.hid ?_⟩
          · exact (HA.out.set 0 (.iface T1 (.pointer (some ⟨b1, 0, none⟩)))).set 1 (.int .i32 0)
          · exact HV.out.far154 _ _ HA.out
          · exact (HB.out.setCell (by simp) _).setCell (by simp) _
          · exact (H6X.out.far (by simp) _).far (by simp) _
        case measure => simp [intOf]; omega
      · obtain rfl : j = dp := by omega
        have hlt1 : ¬ (j : Int) < (j : Int) := by omega
        have q0 : wr.cell? ⟨w.heap.size, 0, none⟩ = some .nilIface := by rw [H6.out.cell]; rfl
        have q1 : wr.cell? ⟨w.heap.size, 1, none⟩ = some (.int .i32 0) := by rw [H6.out.cell]; rfl
        have h0 := H6.out.frozen 0
        have h1 := H6.out.frozen 1
        have l6 := H6.out.lt
        have lq := H.out.1.lt
        have hne : ¬ w.heap.size + 1 = w.heap.size := by omega
        have HAT := Lib.hid H.out.1
        have HV := Lib.hid H.out.2.1
        have HB := Lib.hid H.out.2.2
        clear H
        rcases HV.out.form with rfl | ⟨T2, b2, rfl⟩
        · have c0 : wr.cell? ⟨w.heap.size + 1, 0, none⟩ = some .nilIface := by rw [HAT.out.cell]; rfl
          have c1 : wr.cell? ⟨w.heap.size + 1, 1, none⟩ = some (.int .i32 0) := by rw [HAT.out.cell]; rfl
          go_wp2_with fail
          refine bodyPost_ret (v := .agg #[.nilIface, .int .i32 0]) (by simp [results, Tryd.results17, go_sem, *]) rfl ⟨_, rfl, HV.out.far154 _ _ H6.out, (HB.out.setCell (by simp) _).setCell (by simp) _⟩
        · have c0 : wr.cell? ⟨w.heap.size + 1, 0, none⟩ = some (.iface T2 (.pointer (some ⟨b2, 0, none⟩))) := by rw [HAT.out.cell]; rfl
          have c1 : wr.cell? ⟨w.heap.size + 1, 1, none⟩ = some (.int .i32 0) := by rw [HAT.out.cell]; rfl
          go_wp2_with fail
          refine bodyPost_ret (v := .agg #[.iface T2 (.pointer (some ⟨b2, 0, none⟩)), .int .i32 0]) (by simp [results, Tryd.results17, go_sem, *]) rfl ⟨_, rfl, HV.out.far154 _ _ H6.out, (HB.out.setCell (by simp) _).setCell (by simp) _⟩
  · go_enter Tryd.func17, Tryd.ntmps17
    go_wp2_with fail
    refine (HID.out _).mono ?_
    rintro e w1 ⟨T0, b0, rfl, hv0, hb0⟩
    have HA0 := (at2 w (.cells #[.nilIface, .int .i32 0] 154) 154 #[.nilIface, .int .i32 0]).below hb0 (by simp)
    have d0 : w1.cell? ⟨w.heap.size + 1, 0, none⟩ = some .nilIface := by rw [HA0.cell]; rfl
    have d1 : w1.cell? ⟨w.heap.size + 1, 1, none⟩ = some (.int .i32 0) := by rw [HA0.cell]; rfl
    have g0 := HA0.frozen 0
    have g1 := HA0.frozen 1
    have lq1 := HA0.lt
    have HAx := Lib.hid HA0
    have HA6 := Lib.hid (((At.new w 154 #[.nilIface, .int .i32 0]).alloc (.cells #[.nilIface, .int .i32 0] 154)).below hb0 (by simp; omega))
    have HV := Lib.hid hv0
    have HB := Lib.hid (show Below w.heap.size w w1 from (((Below.refl _ w).alloc (Nat.le_refl _) _).alloc (by simp) _).trans (hb0.mono (by simp; omega)))
    clear HA0 hv0 hb0
    go_wp2_with fail
    go_loopw [8] (fun i wr => VLrel v 1 w w (w.heap.size + 1) dp i wr) (fun i _ => dp - (intOf i).toNat)
    case atStart => exact ⟨0, _, Nat.zero_le _, rfl, Lib.hid ⟨(HAx.out.set 0 (.iface T0 (.pointer (some ⟨b0, 0, none⟩)))).set 1 (.int .i32 0), HV.out.far154 _ _ HAx.out, (HB.out.setCell (by simp) _).setCell (by simp) _⟩, Lib.hid (HA6.out.far (by simp) _).far (by simp) _⟩
    case round =>
      obtain ⟨j, val, hj, rfl, H, H6⟩ := hrel
      have hj0 : (0 : Int) ≤ (j : Int) := Int.natCast_nonneg _
      by_cases hlt : j < dp
      · have hlt1 : (j : Int) < (dp : Int) := by omega
        have c0 : wr.cell? ⟨w.heap.size + 1, 0, none⟩ = some val := by rw [H.out.1.cell]; rfl
        have c1 : wr.cell? ⟨w.heap.size + 1, 1, none⟩ = some (.int .i32 0) := by rw [H.out.1.cell]; rfl
        have f0 := H.out.1.frozen 0
        have f1 := H.out.1.frozen 1
        have lq := H.out.1.lt
        have HD := Lib.hid (mkDot v 1 j val wr H.out.2.1)
        go_wp2_with fail
        refine HD.out.mono ?_
        rintro e w1 ⟨T1, b1, rfl, hv1, hb1⟩
        have HA := Lib.hid (H.out.1.below hb1 lq)
        have H6X := Lib.hid (H6.out.below hb1 H6.out.lt)
        have d0 : w1.cell? ⟨w.heap.size + 1, 0, none⟩ = some val := by rw [HA.out.cell]; rfl
        have d1 : w1.cell? ⟨w.heap.size + 1, 1, none⟩ = some (.int .i32 0) := by rw [HA.out.cell]; rfl
        have g0 := HA.out.frozen 0
        have g1 := HA.out.frozen 1
        have lq1 := HA.out.lt
        have HV := Lib.hid hv1
        have HB := Lib.hid (H.out.2.2.trans (hb1.mono H.out.2.2.size))
        clear c0 c1 f0 f1 lq hv1 hb1 HD
        go_wp2_with fail
        go_roundw
        case rel =>
          refine ⟨j + 1, .iface T1 (.pointer (some ⟨b1, 0, none⟩)), by omega, by go_num, Lib.hid ⟨?_, ?_, ?_⟩, Lib.hid ?_⟩
          · exact (HA.out.set 0 (.iface T1 (.pointer (some ⟨b1, 0, none⟩)))).set 1 (.int .i32 0)
          · exact HV.out.far154 _ _ HA.out
          · exact (HB.out.setCell (by simp) _).setCell (by simp) _
          · exact (H6X.out.far (by simp) _).far (by simp) _
        case measure => simp [intOf]; omega
      · obtain rfl : j = dp := by omega
        have hlt1 : ¬ (j : Int) < (j : Int) := by omega
        have q0 : wr.cell? ⟨w.heap.size, 0, none⟩ = some .nilIface := by rw [H6.out.cell]; rfl
        have q1 : wr.cell? ⟨w.heap.size, 1, none⟩ = some (.int .i32 0) := by rw [H6.out.cell]; rfl
        have h0 := H6.out.frozen 0
        have h1 := H6.out.frozen 1
        have l6 := H6.out.lt
        have lq := H.out.1.lt
        have hne : ¬ w.heap.size + 1 = w.heap.size := by omega
        have HAT := Lib.hid H.out.1
        have HV := Lib.hid H.out.2.1
        have HB := Lib.hid H.out.2.2
        clear H
        rcases HV.out.form with rfl | ⟨T2, b2, rfl⟩
        · have c0 : wr.cell? ⟨w.heap.size + 1, 0, none⟩ = some .nilIface := by rw [HAT.out.cell]; rfl
          have c1 : wr.cell? ⟨w.heap.size + 1, 1, none⟩ = some (.int .i32 0) := by rw [HAT.out.cell]; rfl
          go_wp2_with fail
          refine bodyPost_ret (v := .agg #[.nilIface, .int .i32 0]) (by simp [results, Tryd.results17, go_sem, *]) rfl ⟨_, rfl, HV.out.far154 _ _ H6.out, (HB.out.setCell (by simp) _).setCell (by simp) _⟩
        · have c0 : wr.cell? ⟨w.heap.size + 1, 0, none⟩ = some (.iface T2 (.pointer (some ⟨b2, 0, none⟩))) := by rw [HAT.out.cell]; rfl
          have c1 : wr.cell? ⟨w.heap.size + 1, 1, none⟩ = some (.int .i32 0) := by rw [HAT.out.cell]; rfl
          go_wp2_with fail
          refine bodyPost_ret (v := .agg #[.iface T2 (.pointer (some ⟨b2, 0, none⟩)), .int .i32 0]) (by simp [results, Tryd.results17, go_sem, *]) rfl ⟨_, rfl, HV.out.far154 _ _ H6.out, (HB.out.setCell (by simp) _).setCell (by simp) _⟩
  · go_enter Tryd.func17, Tryd.ntmps17
    go_wp2_with fail
    refine (HID.out _).mono ?_
    rintro e w1 ⟨T0, b0, rfl, hv0, hb0⟩
    have HA0 := (at2 w (.cells #[.nilIface, .int .i32 0] 154) 154 #[.nilIface, .int .i32 0]).below hb0 (by simp)
    have d0 : w1.cell? ⟨w.heap.size + 1, 0, none⟩ = some .nilIface := by rw [HA0.cell]; rfl
    have d1 : w1.cell? ⟨w.heap.size + 1, 1, none⟩ = some (.int .i32 0) := by rw [HA0.cell]; rfl
    have g0 := HA0.frozen 0
    have g1 := HA0.frozen 1
    have lq1 := HA0.lt
    have HAx := Lib.hid HA0
    have HA6 := Lib.hid (((At.new w 154 #[.nilIface, .int .i32 0]).alloc (.cells #[.nilIface, .int .i32 0] 154)).below hb0 (by simp; omega))
    have HV := Lib.hid hv0
    have HB := Lib.hid (show Below w.heap.size w w1 from (((Below.refl _ w).alloc (Nat.le_refl _) _).alloc (by simp) _).trans (hb0.mono (by simp; omega)))
    clear HA0 hv0 hb0
    go_wp2_with fail
    go_loopw [8] (fun i wr => VLrel v 1 w w (w.heap.size + 1) dp i wr) (fun i _ => dp - (intOf i).toNat)
    case atStart => exact ⟨0, _, Nat.zero_le _, rfl, Lib.hid ⟨(HAx.out.set 0 (.iface T0 (.pointer (some ⟨b0, 0, none⟩)))).set 1 (.int .i32 0), HV.out.far154 _ _ HAx.out, (HB.out.setCell (by simp) _).setCell (by simp) _⟩, Lib.hid (HA6.out.far (by simp) _).far (by simp) _⟩
    case round =>
      obtain ⟨j, val, hj, rfl, H, H6⟩ := hrel
      have hj0 : (0 : Int) ≤ (j : Int) := Int.natCast_nonneg _
      by_cases hlt : j < dp
      · have hlt1 : (j : Int) < (dp : Int) := by omega
        have c0 : wr.cell? ⟨w.heap.size + 1, 0, none⟩ = some val := by rw [H.out.1.cell]; rfl
        have c1 : wr.cell? ⟨w.heap.size + 1, 1, none⟩ = some (.int .i32 0) := by rw [H.out.1.cell]; rfl
        have f0 := H.out.1.frozen 0
        have f1 := H.out.1.frozen 1
        have lq := H.out.1.lt
        have HD := Lib.hid (mkDot v 1 j val wr H.out.2.1)
        go_wp2_with fail
        refine HD.out.mono ?_
        rintro e w1 ⟨T1, b1, rfl, hv1, hb1⟩
        have HA := Lib.hid (H.out.1.below hb1 lq)
        have H6X := Lib.hid (H6.out.below hb1 H6.out.lt)
        have d0 : w1.cell? ⟨w.heap.size + 1, 0, none⟩ = some val := by rw [HA.out.cell]; rfl
        have d1 : w1.cell? ⟨w.heap.size + 1, 1, none⟩ = some (.int .i32 0) := by rw [HA.out.cell]; rfl
        have g0 := HA.out.frozen 0
        have g1 := HA.out.frozen 1
        have lq1 := HA.out.lt
        have HV := Lib.hid hv1
        have HB := Lib.hid (H.out.2.2.trans (hb1.mono H.out.2.2.size))
        clear c0 c1 f0 f1 lq hv1 hb1 HD
        go_wp2_with fail
        go_roundw
        case rel =>
          refine ⟨j + 1, .iface T1 (.pointer (some ⟨b1, 0, none⟩)), by omega, by go_num, Lib.hid ⟨?_, ?_, ?_⟩, Lib.hid ?_⟩
          · exact (HA.out.set 0 (.iface T1 (.pointer (some ⟨b1, 0, none⟩)))).set 1 (.int .i32 0)
          · exact HV.out.far154 _ _ HA.out
          · exact (HB.out.setCell (by simp) _).setCell (by simp) _
          · exact (H6X.out.far (by simp) _).far (by simp) _
        case measure => simp [intOf]; omega
      · obtain rfl : j = dp := by omega
        have hlt1 : ¬ (j : Int) < (j : Int) := by omega
        have q0 : wr.cell? ⟨w.heap.size, 0, none⟩ = some .nilIface := by rw [H6.out.cell]; rfl
        have q1 : wr.cell? ⟨w.heap.size, 1, none⟩ = some (.int .i32 0) := by rw [H6.out.cell]; rfl
        have h0 := H6.out.frozen 0
        have h1 := H6.out.frozen 1
        have l6 := H6.out.lt
        have lq := H.out.1.lt
        have hne : ¬ w.heap.size + 1 = w.heap.size := by omega
        have HAT := Lib.hid H.out.1
        have HV := Lib.hid H.out.2.1
        have HB := Lib.hid H.out.2.2
        clear H
        rcases HV.out.form with rfl | ⟨T2, b2, rfl⟩
        · have c0 : wr.cell? ⟨w.heap.size + 1, 0, none⟩ = some .nilIface := by rw [HAT.out.cell]; rfl
          have c1 : wr.cell? ⟨w.heap.size + 1, 1, none⟩ = some (.int .i32 0) := by rw [HAT.out.cell]; rfl
          go_wp2_with fail
          refine bodyPost_ret (v := .agg #[.nilIface, .int .i32 0]) (by simp [results, Tryd.results17, go_sem, *]) rfl ⟨_, rfl, HV.out.far154 _ _ H6.out, (HB.out.setCell (by simp) _).setCell (by simp) _⟩
        · have c0 : wr.cell? ⟨w.heap.size + 1, 0, none⟩ = some (.iface T2 (.pointer (some ⟨b2, 0, none⟩))) := by rw [HAT.out.cell]; rfl
          have c1 : wr.cell? ⟨w.heap.size + 1, 1, none⟩ = some (.int .i32 0) := by rw [HAT.out.cell]; rfl
          go_wp2_with fail
          refine bodyPost_ret (v := .agg #[.iface T2 (.pointer (some ⟨b2, 0, none⟩)), .int .i32 0]) (by simp [results, Tryd.results17, go_sem, *]) rfl ⟨_, rfl, HV.out.far154 _ _ H6.out, (HB.out.setCell (by simp) _).setCell (by simp) _⟩
  · go_enter Tryd.func17, Tryd.ntmps17
    go_wp2_with fail
    go_loopw [8] (fun i wr => VLrel v 5 w w (w.heap.size + 1) dp i wr) (fun i _ => dp - (intOf i).toNat)
    case atStart => exact ⟨0, _, Nat.zero_le _, rfl, Lib.hid ⟨at2 _ _ _ _, .no, (((Below.refl _ w).alloc (Nat.le_refl _) _).alloc (by simp) _)⟩, Lib.hid (At.new w 154 _).alloc _⟩
    case round =>
      obtain ⟨j, val, hj, rfl, H, H6⟩ := hrel
      have hj0 : (0 : Int) ≤ (j : Int) := Int.natCast_nonneg _
      by_cases hlt : j < dp
      · have hlt1 : (j : Int) < (dp : Int) := by omega
        have c0 : wr.cell? ⟨w.heap.size + 1, 0, none⟩ = some val := by rw [H.out.1.cell]; rfl
        have c1 : wr.cell? ⟨w.heap.size + 1, 1, none⟩ = some (.int .i32 0) := by rw [H.out.1.cell]; rfl
        have f0 := H.out.1.frozen 0
        have f1 := H.out.1.frozen 1
        have lq := H.out.1.lt
        have HD := Lib.hid (mkDot v 5 j val wr H.out.2.1)
        go_wp2_with fail
        refine HD.out.mono ?_
        rintro e w1 ⟨T1, b1, rfl, hv1, hb1⟩
        have HA := Lib.hid (H.out.1.below hb1 lq)
        have H6X := Lib.hid (H6.out.below hb1 H6.out.lt)
        have d0 : w1.cell? ⟨w.heap.size + 1, 0, none⟩ = some val := by rw [HA.out.cell]; rfl
        have d1 : w1.cell? ⟨w.heap.size + 1, 1, none⟩ = some (.int .i32 0) := by rw [HA.out.cell]; rfl
        have g0 := HA.out.frozen 0
        have g1 := HA.out.frozen 1
        have lq1 := HA.out.lt
        have HV := Lib.hid hv1
        have HB := Lib.hid (H.out.2.2.trans (hb1.mono H.out.2.2.size))
        clear c0 c1 f0 f1 lq hv1 hb1 HD
        go_wp2_with fail
        go_roundw
        case rel =>
          refine ⟨j + 1, .iface T1 (.pointer (some ⟨b1, 0, none⟩)), by omega, by go_num, Lib.hid ⟨?_, ?_, ?_⟩, Lib.hid ?_⟩
          · exact (HA.out.set 0 (.iface T1 (.pointer (some ⟨b1, 0, none⟩)))).set 1 (.int .i32 0)
          · exact HV.out.far154 _ _ HA.out
          · exact (HB.out.setCell (by simp) _).setCell (by simp) _
          · exact (H6X.out.far (by simp) _).far (by simp) _
        case measure => simp [intOf]; omega
      · obtain rfl : j = dp := by omega
        have hlt1 : ¬ (j : Int) < (j : Int) := by omega
        have q0 : wr.cell? ⟨w.heap.size, 0, none⟩ = some .nilIface := by rw [H6.out.cell]; rfl
        have q1 : wr.cell? ⟨w.heap.size, 1, none⟩ = some (.int .i32 0) := by rw [H6.out.cell]; rfl
        have h0 := H6.out.frozen 0
        have h1 := H6.out.frozen 1
        have l6 := H6.out.lt
        have lq := H.out.1.lt
        have hne : ¬ w.heap.size + 1 = w.heap.size := by omega
        have HAT := Lib.hid H.out.1
        have HV := Lib.hid H.out.2.1
        have HB := Lib.hid H.out.2.2
        clear H
        rcases HV.out.form with rfl | ⟨T2, b2, rfl⟩
        · have c0 : wr.cell? ⟨w.heap.size + 1, 0, none⟩ = some .nilIface := by rw [HAT.out.cell]; rfl
          have c1 : wr.cell? ⟨w.heap.size + 1, 1, none⟩ = some (.int .i32 0) := by rw [HAT.out.cell]; rfl
          go_wp2_with fail
          refine bodyPost_ret (v := .agg #[.nilIface, .int .i32 0]) (by simp [results, Tryd.results17, go_sem, *]) rfl ⟨_, rfl, HV.out.far154 _ _ H6.out, (HB.out.setCell (by simp) _).setCell (by simp) _⟩
        · have c0 : wr.cell? ⟨w.heap.size + 1, 0, none⟩ = some (.iface T2 (.pointer (some ⟨b2, 0, none⟩))) := by rw [HAT.out.cell]; rfl
          have c1 : wr.cell? ⟨w.heap.size + 1, 1, none⟩ = some (.int .i32 0) := by rw [HAT.out.cell]; rfl
          go_wp2_with fail
          refine bodyPost_ret (v := .agg #[.iface T2 (.pointer (some ⟨b2, 0, none⟩)), .int .i32 0]) (by simp [results, Tryd.results17, go_sem, *]) rfl ⟨_, rfl, HV.out.far154 _ _ H6.out, (HB.out.setCell (by simp) _).setCell (by simp) _⟩
end UX
end Go.Proofs.YthgcchgpplblbaaDoor
