/- Proved here: what zzBuildScanStmts builds. Conditions: the rows of codes and places, as stated. -/
import Derived.Test.YtjnffbnipjkibaaDoorSCB
import Derived.WalkKit
import Derived.WalkSpells
import Derived.WalkLawsBesides
import Derived.Lib.Hide
import Derived.Lib.SliceRun
import Derived.Deep.RegionWith
import Derived.OwnWalk
import Derived.Laws.OwnMore
namespace Go.Proofs.YtjnffbnipjkibaaDoor
open Go.RowKit
set_option linter.unusedSimpArgs false
set_option linter.unusedVariables false

/-- The i-th code, the number of its declarations. -/
def kz (zs : List Int) (i : Nat) : Int := zs.getD i 0 % 6
def dz (zs : List Int) (i : Nat) : Nat := (zs.getD i 0 / 6 % 3).toNat
def zd (d : Nat) : Array Value := madeCells (Value.agg #[.nilIface, .int .i32 0, .nilIface, .int .i32 0]).cells (d * 4)
/-- The rows' cells, item by item. -/
def CV (n : Nat) (cs cl : Array Value) (zs ts : List Int) (lo : Nat → Nat) : Prop := ∀ i, i < n → cs[i * 2 + 1]? = some (.int .i32 (ts.getD i 0)) ∧
  (kz zs i = 5 → cs[i * 2]? = some (.iface 264 (.pointer (some ⟨lo i, 0, none⟩))) ∧ cl[i]? = some (.pointer none)) ∧
  (kz zs i ≠ 5 → cs[i * 2]? = some (.iface 60 (.pointer (some ⟨lo i, 0, none⟩))) ∧ cl[i]? = some (.pointer (some ⟨lo i, 0, none⟩)))
/-- The locals, the kind of the i-th is kd i. -/
def LV (n : Nat) (zs : List Int) (lo : Nat → Nat) (kd : Nat → Int) (w : World) : Prop := ∀ i, i < n → kz zs i ≠ 5 → At w (lo i) 65 #[.slice (some ⟨lo i - 1, 0, none⟩) (dz zs i) (dz zs i), .int .u8 (kd i), .bool false, .bool false] ∧ At w (lo i - 1) 75 (zd (dz zs i))
def BRr (n : Nat) (zs ts : List Int) (w : World) (i : Value) (wr : World) : Prop :=
  ∃ (k : Nat) (cs cl : Array Value) (lo : Nat → Nat), k ≤ n ∧ i = .int .i64 k ∧ cs.size = n * 2 ∧ cl.size = n ∧ Hid (At wr w.heap.size 248 cs) ∧ Hid (At wr (w.heap.size + 1) 60 cl) ∧ Hid (CV k cs cl zs ts lo) ∧ Hid (LV k zs lo (fun i => kOf (kz zs i)) wr) ∧ Hid (∀ i, i < k → w.heap.size + 3 ≤ lo i ∧ lo i < wr.heap.size) ∧ Hid (∀ i j, i < j → j < k → lo i < lo j) ∧ Hid (Below w.heap.size w wr) ∧ Hid (∀ i, k ≤ i → i < n → cl[i]? = some (.pointer none))
def BSP (n : Nat) (zs ts : List Int) (w : World) (e : Ending) (w' : World) : Prop :=
  ∃ (cs cl : Array Value) (lo : Nat → Nat), e = .returned (.tuple #[.slice (some ⟨w.heap.size, 0, none⟩) n n, .slice (some ⟨w.heap.size + 1, 0, none⟩) n n]) ∧ At w' w.heap.size 248 cs ∧ At w' (w.heap.size + 1) 60 cl ∧ CV n cs cl zs ts lo ∧ LV n zs lo (fun i => kOf (kz zs i)) w' ∧ (∀ i, i < n → w.heap.size + 3 ≤ lo i ∧ lo i < w'.heap.size) ∧ (∀ i j, i < j → j < n → lo i < lo j) ∧ Below w.heap.size w w'
def upd {α : Type} (f : Nat → α) (k : Nat) (v : α) : Nat → α := fun i => if i = k then v else f i
theorem upd_eq {α : Type} (f : Nat → α) (k : Nat) (v : α) : upd f k v k = v := by simp [upd]
theorem upd_ne {α : Type} (f : Nat → α) (k i : Nat) (v : α) (h : i ≠ k) : upd f k v i = f i := by simp [upd, h]
theorem CV.snoc5 {n k : Nat} {cs cl : Array Value} {zs ts : List Int} {lo : Nat → Nat} {b : Nat} (h : CV k cs cl zs ts lo) (hk : k < n) (hs : cs.size = n * 2) (hz : kz zs k = 5) (hl : cl[k]? = some (.pointer none)) :
    CV (k + 1) ((cs.setIfInBounds (k * 2) (.iface 264 (.pointer (some ⟨b, 0, none⟩)))).setIfInBounds (k * 2 + 1) (.int .i32 (ts.getD k 0))) cl zs ts (upd lo k b) := by
  intro i hi
  by_cases e : i = k
  · subst e
    refine ⟨Array.getElem?_setIfInBounds_self_of_lt (by simp [hs]; omega), fun _ => ⟨?_, hl⟩, fun h => absurd hz h⟩
    rw [Array.getElem?_setIfInBounds_ne (by omega), upd_eq]
    exact Array.getElem?_setIfInBounds_self_of_lt (by rw [hs]; omega)
  · obtain ⟨h1, h2, h3⟩ := h i (by omega)
    rw [upd_ne _ _ _ _ e, Array.getElem?_setIfInBounds_ne (by omega), Array.getElem?_setIfInBounds_ne (by omega), Array.getElem?_setIfInBounds_ne (by omega), Array.getElem?_setIfInBounds_ne (by omega)]
    exact ⟨h1, h2, h3⟩
theorem CV.snoc {n k : Nat} {cs cl : Array Value} {zs ts : List Int} {lo : Nat → Nat} {b : Nat} (h : CV k cs cl zs ts lo) (hk : k < n) (hs : cs.size = n * 2) (hsl : cl.size = n) (hz : kz zs k ≠ 5) :
    CV (k + 1) ((cs.setIfInBounds (k * 2) (.iface 60 (.pointer (some ⟨b, 0, none⟩)))).setIfInBounds (k * 2 + 1) (.int .i32 (ts.getD k 0))) (cl.setIfInBounds k (.pointer (some ⟨b, 0, none⟩))) zs ts (upd lo k b) := by
  intro i hi
  by_cases e : i = k
  · subst e
    refine ⟨Array.getElem?_setIfInBounds_self_of_lt (by simp [hs]; omega), fun h => absurd h hz, fun _ => ⟨?_, ?_⟩⟩
    · rw [Array.getElem?_setIfInBounds_ne (by omega), upd_eq]
      exact Array.getElem?_setIfInBounds_self_of_lt (by rw [hs]; omega)
    · rw [upd_eq]; exact Array.getElem?_setIfInBounds_self_of_lt (by rw [hsl]; omega)
  · obtain ⟨h1, h2, h3⟩ := h i (by omega)
    rw [upd_ne _ _ _ _ e, Array.getElem?_setIfInBounds_ne (by omega), Array.getElem?_setIfInBounds_ne (by omega), Array.getElem?_setIfInBounds_ne (by omega), Array.getElem?_setIfInBounds_ne (by omega), Array.getElem?_setIfInBounds_ne (by omega)]
    exact ⟨h1, h2, h3⟩
theorem hwd (z : Int) (h0 : 0 ≤ z) (h1 : z ≤ 255) : (IntKind.i64.wrap (IntKind.u8.wrap (z.tdiv 6))).tmod 3 = z / 6 % 3 := by
  have e : z.tdiv 6 = z / 6 := Int.tdiv_eq_ediv_of_nonneg h0
  have e2 : IntKind.u8.wrap (z / 6) = z / 6 := by simp [IntKind.wrap, IntKind.bits, IntKind.signed]; omega
  have e3 : IntKind.i64.wrap (z / 6) = z / 6 := by simp [IntKind.wrap, IntKind.bits, IntKind.signed]; omega
  rw [e, e2, e3]
  exact Int.tmod_eq_emod_of_nonneg (by omega)
theorem kz_range {zs : List Int} (h : ∀ i, 0 ≤ zs.getD i 0 ∧ zs.getD i 0 ≤ 255) (i : Nat) : 0 ≤ kz zs i ∧ kz zs i ≤ 5 := by
  have := h i; unfold kz; omega
theorem LV.keep {n : Nat} {zs : List Int} {lo : Nat → Nat} {kd : Nat → Int} {w w' : World} (h : LV n zs lo kd w) (hk : ∀ i, i < n → w'.heap[lo i]? = w.heap[lo i]? ∧ w'.heap[lo i - 1]? = w.heap[lo i - 1]?) : LV n zs lo kd w' := fun i hi h5 => ⟨(hk i hi).1.trans (h i hi h5).1, (hk i hi).2.trans (h i hi h5).2⟩
theorem LV.snoc5 {k : Nat} {zs : List Int} {lo : Nat → Nat} {kd : Nat → Int} {w : World} {b : Nat} (h : LV k zs lo kd w) (hz : kz zs k = 5) : LV (k + 1) zs (upd lo k b) kd w := fun i hi h5 => by
  have e : i ≠ k := fun e => h5 (e ▸ hz)
  rw [upd_ne _ _ _ _ e]
  exact h i (by omega) h5
theorem LV.snoc {k : Nat} {zs : List Int} {lo : Nat → Nat} {kd : Nat → Int} {w : World} {b : Nat} (h : LV k zs lo kd w) (h1 : At w b 65 #[.slice (some ⟨b - 1, 0, none⟩) (dz zs k) (dz zs k), .int .u8 (kd k), .bool false, .bool false]) (h2 : At w (b - 1) 75 (zd (dz zs k))) : LV (k + 1) zs (upd lo k b) kd w := fun i hi h5 => by
  by_cases e : i = k
  · subst e; rw [upd_eq]; exact ⟨h1, h2⟩
  · rw [upd_ne _ _ _ _ e]; exact h i (by omega) h5
theorem lo_snoc {k b B : Nat} {lo : Nat → Nat} {w w' : World} (h : ∀ i, i < k → B ≤ lo i ∧ lo i < w.heap.size) (hb : B ≤ b ∧ b < w'.heap.size) (hs : w.heap.size ≤ w'.heap.size) : ∀ i, i < k + 1 → B ≤ upd lo k b i ∧ upd lo k b i < w'.heap.size := fun i hi => by
  by_cases e : i = k
  · subst e; rw [upd_eq]; exact hb
  · rw [upd_ne _ _ _ _ e]; have := h i (by omega); omega
theorem mono_snoc {k b : Nat} {lo : Nat → Nat} {w : World} (h : ∀ i j, i < j → j < k → lo i < lo j) (hl : ∀ i, i < k → lo i < w.heap.size) (hb : w.heap.size ≤ b) : ∀ i j, i < j → j < k + 1 → upd lo k b i < upd lo k b j := fun i j hij hj => by
  by_cases e : j = k
  · subst e; rw [upd_eq, upd_ne _ _ _ _ (by omega)]; have := hl i hij; omega
  · rw [upd_ne _ _ _ _ e, upd_ne _ _ _ _ (by omega)]; exact h i j hij (by omega)
theorem step5 {n k : Nat} {cs cl : Array Value} {zs ts : List Int} {lo : Nat → Nat} {w wr w2 : World} {t : Int} {b : Nat} (hk : k < n) (hcs : cs.size = n * 2) (hcl : cl.size = n) (HA : At wr w.heap.size 248 cs) (HL : At wr (w.heap.size + 1) 60 cl) (HC : CV k cs cl zs ts lo) (HV : LV k zs lo (fun i => kOf (kz zs i)) wr) (HB : ∀ i, i < k → w.heap.size + 3 ≤ lo i ∧ lo i < wr.heap.size) (HM : ∀ i j, i < j → j < k → lo i < lo j) (HW : Below w.heap.size w wr) (HN : ∀ i, k ≤ i → i < n → cl[i]? = some (.pointer none)) (h5 : kz zs k = 5) (ht : t = ts.getD k 0) (hb : Below wr.heap.size wr w2) (hbb : wr.heap.size + 1 ≤ b ∧ b < w2.heap.size) :
    BRr n zs ts w (.int .i64 ((k + 1 : Nat) : Int)) ((w2.setCell ⟨w.heap.size, k * 2, none⟩ (.iface 264 (.pointer (some ⟨b, 0, none⟩)))).setCell ⟨w.heap.size, k * 2 + 1, none⟩ (.int .i32 t)) := by
  have z2 := hb.size
  have lL := HL.lt
  have K : ∀ q, q ≠ w.heap.size → ∀ u v, ((w2.setCell ⟨w.heap.size, k * 2, none⟩ u).setCell ⟨w.heap.size, k * 2 + 1, none⟩ v).heap[q]? = w2.heap[q]? := fun q hq u v => by rw [Below.heap_setCell _ _ _ q (by simpa using hq), Below.heap_setCell _ _ _ q (by simpa using hq)]
  subst ht
  refine ⟨k + 1, _, cl, upd lo k b, by omega, rfl, by simp [hcs], hcl, Lib.hid (((HA.below hb HA.lt).set _ _).set _ _), Lib.hid ((K _ (by omega) _ _).trans (HL.below hb lL)), Lib.hid (HC.snoc5 hk hcs h5 (HN k (Nat.le_refl _) hk)), Lib.hid ((HV.keep (fun i hi => ?_)).snoc5 h5), Lib.hid ?_, Lib.hid (mono_snoc HM (fun i hi => (HB i hi).2) (by omega)), Lib.hid ?_, Lib.hid (fun i hi hin => HN i (by omega) hin)⟩
  · have h := HB i hi
    exact ⟨(K _ (by omega) _ _).trans (hb.block _ h.2), (K _ (by omega) _ _).trans (hb.block _ (by omega))⟩
  · have h := lo_snoc (w' := w2) HB (b := b) (by omega) z2
    intro i hi
    have := h i hi
    simp [World.setCell]; omega
  · exact ((HW.trans (hb.mono HW.size)).setCell (Nat.le_refl _) _).setCell (Nat.le_refl _) _
theorem stepL {n k D : Nat} {cs cl : Array Value} {zs ts : List Int} {lo : Nat → Nat} {w wr w3 : World} {t kk : Int} (hk : k < n) (hcs : cs.size = n * 2) (hcl : cl.size = n) (HA : At wr w.heap.size 248 cs) (HL : At wr (w.heap.size + 1) 60 cl) (HC : CV k cs cl zs ts lo) (HV : LV k zs lo (fun i => kOf (kz zs i)) wr) (HB : ∀ i, i < k → w.heap.size + 3 ≤ lo i ∧ lo i < wr.heap.size) (HM : ∀ i j, i < j → j < k → lo i < lo j) (HW : Below w.heap.size w wr) (HN : ∀ i, k ≤ i → i < n → cl[i]? = some (.pointer none)) (h5 : kz zs k ≠ 5) (ht : t = ts.getD k 0) (hD : D = dz zs k) (hkk : kk = kOf (kz zs k))
    (hb : Below ((((wr.setCell ⟨w.heap.size + 1, k, none⟩ (.pointer (some ⟨wr.heap.size + 1, 0, none⟩))).alloc (.cells (zd D) 75)).alloc (.cells #[.slice (some ⟨wr.heap.size, 0, none⟩) D D, .int .u8 kk, .bool false, .bool false] 65)).drew).heap.size ((((wr.setCell ⟨w.heap.size + 1, k, none⟩ (.pointer (some ⟨wr.heap.size + 1, 0, none⟩))).alloc (.cells (zd D) 75)).alloc (.cells #[.slice (some ⟨wr.heap.size, 0, none⟩) D D, .int .u8 kk, .bool false, .bool false] 65)).drew) w3) :
    BRr n zs ts w (.int .i64 ((k + 1 : Nat) : Int)) ((w3.setCell ⟨w.heap.size, k * 2, none⟩ (.iface 60 (.pointer (some ⟨wr.heap.size + 1, 0, none⟩)))).setCell ⟨w.heap.size, k * 2 + 1, none⟩ (.int .i32 t)) := by
  obtain ⟨W, hW⟩ : ∃ W, W = ((((wr.setCell ⟨w.heap.size + 1, k, none⟩ (.pointer (some ⟨wr.heap.size + 1, 0, none⟩))).alloc (.cells (zd D) 75)).alloc (.cells #[.slice (some ⟨wr.heap.size, 0, none⟩) D D, .int .u8 kk, .bool false, .bool false] 65)).drew) := ⟨_, rfl⟩
  rw [← hW] at hb
  have zW : W.heap.size = wr.heap.size + 2 := by rw [hW]; simp [World.setCell]
  have lA := HA.lt
  have lL := HL.lt
  have KW : ∀ q, q < wr.heap.size → q ≠ w.heap.size + 1 → W.heap[q]? = wr.heap[q]? := fun q hq hn => by
    rw [hW]
    show ((((wr.setCell ⟨w.heap.size + 1, k, none⟩ _).alloc _).alloc _).heap[q]?) = _
    rw [Below.heap_alloc _ _ q (by simp [World.setCell]; omega), Below.heap_alloc _ _ q (by simp [World.setCell]; omega), Below.heap_setCell _ _ _ q (by simpa using hn)]
  have AL : At W (w.heap.size + 1) 60 (cl.setIfInBounds k (.pointer (some ⟨wr.heap.size + 1, 0, none⟩))) := by rw [hW]; exact (((HL.set k _).alloc _).alloc _).drew
  have AD : At W wr.heap.size 75 (zd D) := by
    have h := At.new (wr.setCell ⟨w.heap.size + 1, k, none⟩ (.pointer (some ⟨wr.heap.size + 1, 0, none⟩))) 75 (zd D)
    rw [show (wr.setCell ⟨w.heap.size + 1, k, none⟩ (.pointer (some ⟨wr.heap.size + 1, 0, none⟩))).heap.size = wr.heap.size from by simp [World.setCell]] at h
    rw [hW]
    exact (h.alloc _).drew
  have AS : At W (wr.heap.size + 1) 65 #[.slice (some ⟨wr.heap.size, 0, none⟩) D D, .int .u8 kk, .bool false, .bool false] := by
    have h := At.new ((wr.setCell ⟨w.heap.size + 1, k, none⟩ (.pointer (some ⟨wr.heap.size + 1, 0, none⟩))).alloc (.cells (zd D) 75)) 65 #[.slice (some ⟨wr.heap.size, 0, none⟩) D D, .int .u8 kk, .bool false, .bool false]
    rw [show ((wr.setCell ⟨w.heap.size + 1, k, none⟩ (.pointer (some ⟨wr.heap.size + 1, 0, none⟩))).alloc (.cells (zd D) 75)).heap.size = wr.heap.size + 1 from by simp [World.setCell]] at h
    rw [hW]
    exact h.drew
  have HWW : Below w.heap.size w W := by rw [hW]; exact (((HW.setCell (by simp) _).alloc (by simp [World.setCell]; omega) _).alloc (by simp [World.setCell]; omega) _).drew
  clear hW
  have z3 := hb.size
  have K : ∀ q, q ≠ w.heap.size → ∀ u v, ((w3.setCell ⟨w.heap.size, k * 2, none⟩ u).setCell ⟨w.heap.size, k * 2 + 1, none⟩ v).heap[q]? = w3.heap[q]? := fun q hq u v => by rw [Below.heap_setCell _ _ _ q (by simpa using hq), Below.heap_setCell _ _ _ q (by simpa using hq)]
  have A3 : At w3 w.heap.size 248 cs := (hb.block _ (by omega)).trans ((KW _ lA (by omega)).trans HA)
  subst ht hD hkk
  refine ⟨k + 1, _, _, upd lo k (wr.heap.size + 1), by omega, rfl, by simp [hcs], by simp [hcl], Lib.hid ((A3.set _ _).set _ _), Lib.hid ((K _ (by omega) _ _).trans ((hb.block _ (by omega)).trans AL)), Lib.hid (HC.snoc hk hcs hcl h5), Lib.hid ((HV.keep (fun i hi => ?_)).snoc ((K _ (by omega) _ _).trans ((hb.block _ (by omega)).trans AS)) ((K _ (by omega) _ _).trans ((hb.block _ (by omega)).trans AD))), Lib.hid ?_, Lib.hid (mono_snoc HM (fun i hi => (HB i hi).2) (by omega)), Lib.hid ?_, Lib.hid (fun i hi hin => ?_)⟩
  · have h := HB i hi
    exact ⟨(K _ (by omega) _ _).trans ((hb.block _ (by omega)).trans (KW _ h.2 (by omega))), (K _ (by omega) _ _).trans ((hb.block _ (by omega)).trans (KW _ (by omega) (by omega)))⟩
  · have h := lo_snoc (w' := w3) HB (b := wr.heap.size + 1) (by have := HW.size; omega) (by omega)
    intro i hi
    have := h i hi
    simp [World.setCell]; omega
  · exact ((HWW.trans (hb.mono HWW.size)).setCell (Nat.le_refl _) _).setCell (Nat.le_refl _) _
  · rw [Array.getElem?_setIfInBounds_ne (by omega)]
    exact HN i (by omega) hin
set_option maxRecDepth 100000 in
set_option maxHeartbeats 8000000 in
theorem build (n m1 m2 cp1 cp2 : Nat) (a1 a2 : Option Addr) (zs ts : List Int) (hn : n ≤ 4096) (h1 : n ≤ m1) (h2 : n ≤ m2) (hz : ∀ i, 0 ≤ zs.getD i 0 ∧ zs.getD i 0 ≤ 255) (w : World) (hr : RowV w a1 m1 (fun i => .int .u8 (zs.getD i 0))) (hs : RowV w a2 m2 (fun i => .int .i32 (ts.getD i 0))) :
    Calls Tryd.prog 16 #[.slice a1 m1 cp1, .slice a2 m2 cp2, .int .i64 n] w (BSP n zs ts w) := by
  have HR := Lib.hid hr
  have HS := Lib.hid hs
  have HZ := Lib.hid hz
  have hmS : ∀ W : World, (Instr.makeSlice 44 (.int .i64 (n : Int)) (.int .i64 (n : Int))).run Tryd.prog W = .ok (.slice (some ⟨W.heap.size, 0, none⟩) n n) (W.alloc (.cells (madeCells #[.nilIface, .int .i32 0] (n * 2)) 248)) := fun W => by have h := made (P := Tryd.prog) (t := 44) (e := 248) (z := .agg #[.nilIface, .int .i32 0]) (sz := 2) (by_ := 24) Tryd.underlying44 (by kernel_rfl) W n (by omega) (by omega); simpa [Value.cells] using h
  have hmL : ∀ W : World, (Instr.makeSlice 45 (.int .i64 (n : Int)) (.int .i64 (n : Int))).run Tryd.prog W = .ok (.slice (some ⟨W.heap.size, 0, none⟩) n n) (W.alloc (.cells (madeCells #[.pointer none] n) 60)) := fun W => by have h := made (P := Tryd.prog) (t := 45) (e := 60) (z := .pointer none) (sz := 1) (by_ := 8) Tryd.underlying45 (by kernel_rfl) W n (by omega) (by omega); simpa [Value.cells] using h
  have ST := Lib.hid (show BRr n zs ts w (.int .i64 0) ((w.alloc (.cells (madeCells #[.nilIface, .int .i32 0] (n * 2)) 248)).alloc (.cells (madeCells #[.pointer none] n) 60)) from ⟨0, madeCells #[.nilIface, .int .i32 0] (n * 2), madeCells #[.pointer none] n, fun _ => 0, Nat.zero_le _, rfl, by simp [size_madeCells], by simp [size_madeCells], Lib.hid ((At.new w 248 _).alloc _), Lib.hid (by have h := At.new (w.alloc (.cells (madeCells #[.nilIface, .int .i32 0] (n * 2)) 248)) 60 (madeCells #[.pointer none] n); simpa using h), Lib.hid (fun i hi => absurd hi (by omega)), Lib.hid (fun i hi => absurd hi (by omega)), Lib.hid (fun i hi => absurd hi (by omega)), Lib.hid (fun i j _ hi => absurd hi (by omega)), Lib.hid (((Below.refl _ _).alloc (Nat.le_refl _) _).alloc (by simp) _), Lib.hid (fun i _ hi => by exact madeAt (.pointer none) n i (by omega))⟩)
  clear hr hs hz
  go_enter Tryd.func16, Tryd.ntmps16
  go_wp2_with fail
  clear hmS hmL
  go_loopw [10] (fun i wr => BRr n zs ts w i wr) (fun i _ => n - (intOf i).toNat)
  case atStart => exact ST.out
  case round =>
    clear ST
    obtain ⟨k, cs, cl, lo, hk, rfl, hcs, hcl, HA, HL, HC, HV, HB, HM, HW, HN⟩ := hrel
    by_cases hlt : k < n
    · obtain ⟨B1, o1, rfl, hc1⟩ := HR.out (by omega)
      obtain ⟨B2, o2, rfl, hc2⟩ := HS.out (by omega)
      have c1 := kept HW.out (hc1 k (by omega))
      have c2 := kept HW.out (hc2 k (by omega))
      obtain ⟨z0, z1⟩ := HZ.out k
      obtain ⟨z, hzz⟩ : ∃ z, z = zs.getD k 0 := ⟨_, rfl⟩
      obtain ⟨t, htt⟩ : ∃ t, t = ts.getD k 0 := ⟨_, rfl⟩
      have hkz : kz zs k = z % 6 := by unfold kz; rw [hzz]
      have hdz : dz zs k = (z / 6 % 3).toNat := by unfold dz; rw [hzz]
      rw [← hzz] at z0 z1
      simp only [← hzz] at c1
      simp only [← htt] at c2
      have HT := Lib.hid htt
      have HKZ := Lib.hid hkz
      have HDZ := Lib.hid hdz
      clear hzz htt hkz hdz
      have lB1 := World.block_lt_of_cell? _ _ c1
      have lB2 := World.block_lt_of_cell? _ _ c2
      have k0 : (0 : Int) ≤ (k : Int) := Int.natCast_nonneg _
      have k1 : (k : Int) < (m1 : Int) := by omega
      have k2 : (k : Int) < (m2 : Int) := by omega
      have k3 : (k : Int) < (n : Int) := by omega
      have zr := HW.out.size
      have lS := HA.out.lt
      have lL := HL.out.lt
      have nb1 : B1 < w.heap.size := by have := World.block_lt_of_cell? _ _ (hc1 k (by omega)); exact this
      have nb2 : B2 < w.heap.size := by have := World.block_lt_of_cell? _ _ (hc2 k (by omega)); exact this
      obtain ⟨u0, hu0⟩ : ∃ u, cs[k * 2]? = some u := ⟨_, Array.getElem?_eq_getElem (by omega)⟩
      obtain ⟨u1, hu1⟩ : ∃ u, cs[k * 2 + 1]? = some u := ⟨_, Array.getElem?_eq_getElem (by omega)⟩
      have hn0 := HN.out k (Nat.le_refl _) hlt
      clear hc1 hc2
      by_cases h5 : z % 6 = 5
      · have e5 : (z % 6 == 5) = true := by simp [h5]
        go_wp2_with fail
        refine (emptyStmt t wr).mono ?_
        rintro e w2 ⟨b, rfl, hbb, hb⟩
        have z2 := hb.size
        have A2 := HA.out.below hb lS
        have x0 : w2.cell? ⟨w.heap.size, k * 2, none⟩ = some u0 := by rw [A2.cell]; exact hu0
        have x1 : w2.cell? ⟨w.heap.size, k * 2 + 1, none⟩ = some u1 := by rw [A2.cell]; exact hu1
        have x2 := A2.frozen (k * 2)
        have x3 := A2.frozen (k * 2 + 1)
        have x4 := A2.lt
        have DA := Lib.hid (show BRr n zs ts w (.int .i64 ((k + 1 : Nat) : Int)) ((w2.setCell ⟨w.heap.size, k * 2, none⟩ (.iface 264 (.pointer (some ⟨b, 0, none⟩)))).setCell ⟨w.heap.size, k * 2 + 1, none⟩ (.int .i32 t)) from step5 hlt hcs hcl HA.out HL.out HC.out HV.out HB.out HM.out HW.out HN.out (by rw [HKZ.out]; exact h5) HT.out hb hbb)
        clear hb A2 HA HL HC HV HB HM HW HN hu0 hu1 hn0
        go_wp2_with fail
        go_roundw
        case measure => simp [intOf]; omega
        case rel => exact DA.out
      · have e5 : (z % 6 == 5) = false := by simp [h5]
        obtain ⟨D, hD⟩ : ∃ D : Nat, z / 6 % 3 = (D : Int) := ⟨(z / 6 % 3).toNat, by omega⟩
        have hD' : (IntKind.i64.wrap (IntKind.u8.wrap (z.tdiv 6))).tmod 3 = (D : Int) := by rw [hwd z z0 z1, hD]
        have hmD : ∀ W : World, (Instr.makeSlice 63 (.int .i64 (D : Int)) (.int .i64 (D : Int))).run Tryd.prog W = .ok (.slice (some ⟨W.heap.size, 0, none⟩) D D) (W.alloc (.cells (zd D) 75)) := fun W => made (P := Tryd.prog) (t := 63) (e := 75) (z := .agg #[.nilIface, .int .i32 0, .nilIface, .int .i32 0]) (sz := 4) (by_ := 48) Tryd.underlying63 (by kernel_rfl) W D (by omega) (by omega)
        have KO := Lib.hid (fun W => kindOf (z % 6) W (by omega) (by omega))
        obtain ⟨kk, hkk⟩ : ∃ x, x = kOf (z % 6) := ⟨_, rfl⟩
        rw [← hkk] at KO
        go_wp2_with fail
        go_region_with (go_at_call 21; refine (KO.out _).mono ?_; rintro e w' ⟨rfl, rfl⟩)
        all_goals
          have x0 : wr.cell? ⟨w.heap.size + 1, k, none⟩ = some (.pointer none) := by rw [HL.out.cell]; exact hn0
          have x1 := HL.out.frozen k
          go_wp2_with fail
          refine (localStmt t (wr.heap.size + 1) _).mono ?_
          rintro e w3 ⟨rfl, hb3⟩
          have DA := Lib.hid (stepL (t := t) (kk := kOf (z % 6)) (D := D) hlt hcs hcl HA.out HL.out HC.out HV.out HB.out HM.out HW.out HN.out (by rw [HKZ.out]; exact h5) HT.out (by rw [HDZ.out]; omega) (by rw [HKZ.out]) hb3)
          have z3 := hb3.size
          simp [World.setCell] at z3
          have A3 : At w3 w.heap.size 248 cs := by
            have h := ((((HA.out.far (p := ⟨w.heap.size + 1, k, none⟩) (by simp) (.pointer (some ⟨wr.heap.size + 1, 0, none⟩))).alloc (.cells (zd D) 75)).alloc (.cells #[.slice (some ⟨wr.heap.size, 0, none⟩) D D, .int .u8 (kOf (z % 6)), .bool false, .bool false] 65)).drew)
            exact h.below hb3 h.lt
          have y0 : w3.cell? ⟨w.heap.size, k * 2, none⟩ = some u0 := by rw [A3.cell]; exact hu0
          have y1 : w3.cell? ⟨w.heap.size, k * 2 + 1, none⟩ = some u1 := by rw [A3.cell]; exact hu1
          have y2 := A3.frozen (k * 2)
          have y3 := A3.frozen (k * 2 + 1)
          have y4 := A3.lt
          clear hb3 A3 x0 x1 HA HL HC HV HB HM HW HN
          go_wp2_with fail
          go_roundw
          case measure => simp [intOf]; omega
          case rel => exact DA.out
    · have e : k = n := by omega
      subst e
      have HE := Lib.hid (show BSP k zs ts w (.returned (.tuple #[.slice (some ⟨w.heap.size, 0, none⟩) k k, .slice (some ⟨w.heap.size + 1, 0, none⟩) k k])) wr from ⟨cs, cl, lo, rfl, HA.out, HL.out, HC.out, HV.out, HB.out, HM.out, HW.out⟩)
      clear HA HL HC HV HB HM HW HN
      go_wp2_with fail
      go_ret2
      exact HE.out
end Go.Proofs.YtjnffbnipjkibaaDoor
