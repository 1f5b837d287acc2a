/- Proved here: what a list of statements and an SLocal answer to shouldKeepStmtsInDeadControlFlow. Conditions: the cells, as stated. -/
import Derived.Test.YtppcfibhpgjnoaaSKA
import Derived.WalkKit
import Derived.WalkSpells
import Derived.WalkLawsBesides
import Derived.Lib.Hide
import Derived.Lib.SliceRun
import Derived.Deep.RegionWith
import Derived.OwnWalk
import Derived.Laws.OwnMore
import Derived.Deep.AppendLies
namespace Go.Proofs.Ytppcfibhpgjnoaa
open Go.RowKit
set_option linter.unusedSimpArgs false
set_option linter.unusedVariables false

def anyB (t : Nat → Bool) (n : Nat) : Bool := (List.range n).any t
theorem anyB_no {t : Nat → Bool} {n : Nat} (h : ∀ j, j < n → t j = false) : anyB t n = false := by
  simp only [anyB, List.any_eq_false, List.mem_range]
  intro j hj
  simp [h j hj]
theorem anyB_yes {t : Nat → Bool} {n j : Nat} (hj : j < n) (h : t j = true) : anyB t n = true := by
  simp only [anyB, List.any_eq_true, List.mem_range]
  exact ⟨j, hj, h⟩
/-- The cells xs are j statements, the q-th is kept or not as ks q says. -/
def ItS (B : Nat) (S : Nat → Prop) (w : World) (xs : List Value) (j : Nat) (ks : Nat → Bool) : Prop := xs.length = j * 2 ∧ ∀ q, q < j → ∃ (d : Value) (l : Int), IsD d ∧ SK B S w d l (ks q) ∧ xs[q * 2]? = some d ∧ xs[q * 2 + 1]? = some (.int .i32 l)
theorem ItS.keep {B : Nat} {S : Nat → Prop} {w w' : World} {xs : List Value} {j : Nat} {ks : Nat → Bool} (h : ItS B S w xs j ks) (hs : w.heap.size ≤ w'.heap.size) (hk : ∀ b, S b → w'.heap[b]? = w.heap[b]?) : ItS B S w' xs j ks :=
  ⟨h.1, fun q hq => by obtain ⟨d, l, h1, h2, x0, x1⟩ := h.2 q hq; exact ⟨d, l, h1, h2.keep hs hk, x0, x1⟩⟩
theorem ItS.more {B : Nat} {S S' : Nat → Prop} {w : World} {xs : List Value} {j : Nat} {ks : Nat → Bool} (h : ItS B S w xs j ks) (hs : ∀ b, S b → S' b) (hl : ∀ b, S' b → B ≤ b ∧ b < w.heap.size) : ItS B S' w xs j ks :=
  ⟨h.1, fun q hq => by obtain ⟨d, l, h1, h2, x0, x1⟩ := h.2 q hq; exact ⟨d, l, h1, h2.more hs hl, x0, x1⟩⟩
theorem ItS.snoc {B : Nat} {S : Nat → Prop} {w : World} {xs : List Value} {j : Nat} {ks : Nat → Bool} (h : ItS B S w xs j ks) (d : Value) (l : Int) (k : Bool) (hd : IsD d) (hb : SK B S w d l k) : ItS B S w (xs ++ [d, .int .i32 l]) (j + 1) (fun q => if q = j then k else ks q) := by
  refine ⟨by simp [h.1]; omega, fun q hq => ?_⟩
  by_cases e : q = j
  · subst e
    have l1 := h.1
    refine ⟨d, l, hd, by simpa using hb, ?_, ?_⟩ <;> (rw [List.getElem?_append_right (by omega), l1]; simp)
  · obtain ⟨d', l', h1, h2, x0, x1⟩ := h.2 q (by omega)
    have l1 := h.1
    refine ⟨d', l', h1, by simpa [e] using h2, ?_, ?_⟩ <;> (rw [List.getElem?_append_left (by omega)]; assumption)
def SL (n : Nat) (ks : Nat → Bool) (W : World) (i : Value) (wr : World) : Prop := ∃ k : Nat, k ≤ n ∧ i = .int .i64 k ∧ Hid (Below W.heap.size W wr) ∧ Hid (∀ j, j < k → ks j = false)
theorem SL.next {t : Nat → Bool} {k : Nat} (h : ∀ j, j < k → t j = false) (hk : t k = false) : ∀ j, j < k + 1 → t j = false := fun j hj => by
  by_cases e : j = k
  · subst e; exact hk
  · exact h j (by omega)
set_option maxRecDepth 100000 in
set_option maxHeartbeats 4000000 in
theorem klOf {B R n c : Nat} {S : Nat → Prop} {xs : List Value} {ks : Nat → Bool} {B2 : Nat} {w : World} (hR : S R) (ho : w.ownsRow B2 33 2 (.slice (some ⟨R, 0, none⟩) n c) n xs) (hi : ItS B S w xs n ks) (hS : ∀ k, S k → B ≤ k ∧ k < w.heap.size) (hn : n ≤ 1048576) :
    KL B S w (.slice (some ⟨R, 0, none⟩) n c) (anyB ks n) := by
  refine ⟨hS, fun W hW hB => ?_⟩
  have HO := Lib.hid (ownKeep ho (fun k hk => by simp only [Value.ownBlock, Option.some.injEq] at hk; subst hk; exact hW _ hR))
  have HI := Lib.hid (show ∀ q, q < n → ∃ (d : Value) (l : Int), IsD d ∧ (∀ W', Below W.heap.size W W' → Calls Try.prog 40 #[.agg #[d, .int .i32 l]] W' (SKP B (ks q) W')) ∧ xs[q * 2]? = some d ∧ xs[q * 2 + 1]? = some (.int .i32 l) from fun q hq => by
    obtain ⟨d, l, h1, h2, h3⟩ := hi.2 q hq
    exact ⟨d, l, h1, h2.at hW hB, h3⟩)
  have HB := Lib.hid hB
  clear ho hi hW hS hB
  go_enter Try.func44, Try.ntmps44
  go_wp2_with fail
  go_loopw [7] (fun i wr => SL n ks W i wr) (fun i _ => n - (intOf i).toNat)
  case atStart => exact ⟨0, Nat.zero_le _, rfl, Lib.hid (Below.refl _ _), Lib.hid (fun j hj => absurd hj (by omega))⟩
  case round =>
    obtain ⟨k, hk, rfl, HX, HA⟩ := hrel
    by_cases hlt : k < n
    · obtain ⟨d, l, ⟨ty, bb, rfl⟩, hc, x0, x1⟩ := HI.out k hlt
      have HK := Lib.hid hc
      clear hc
      have c0 : wr.cell? ⟨R, k * 2, none⟩ = some (.iface ty (.pointer (some ⟨bb, 0, none⟩))) := kept HX.out (by rw [World.ownsRow.cellAt HO.out _ (by omega)]; exact x0)
      have c1 : wr.cell? ⟨R, k * 2 + 1, none⟩ = some (.int .i32 l) := kept HX.out (by rw [World.ownsRow.cellAt HO.out _ (by omega)]; exact x1)
      have lR : R < wr.heap.size := World.block_lt_of_cell? _ _ c0
      clear x0 x1
      go_wp2_with fail
      refine (HK.out _ (HX.out.alloc HX.out.size _)).mono ?_
      rintro e w1 ⟨rfl, y1, y2⟩
      have HF := Lib.hid (show SKP B (ks k) W (.returned (.bool (ks k))) w1 from SKP.trans (HX.out.alloc HX.out.size _) HB.out ⟨rfl, y1, y2⟩)
      clear y1 y2 HK HX
      cases ht : ks k
      · have HX1 := Lib.hid (HF.out.2.2 ht)
        have HA1 := Lib.hid (SL.next HA.out ht)
        clear HF HA ht
        go_wp2_with fail
        go_roundw
        case rel => exact ⟨k + 1, by omega, by go_num, HX1, HA1⟩
        case measure => simp [intOf]; omega
      · have HY := Lib.hid (anyB_yes hlt ht)
        have HZ := Lib.hid HF.out.2.1
        clear HF HA ht
        go_wp2_with fail
        go_ret
        exact (SKP.yes HZ.out).eq HY.out.symm
    · have e : k = n := by omega
      subst e
      have HA1 := Lib.hid (anyB_no HA.out)
      clear HA
      go_wp2_with fail
      go_ret
      exact (SKP.no HX.out HB.out).eq HA1.out.symm
set_option maxRecDepth 100000 in
set_option maxHeartbeats 1000000 in
theorem skLet {B b kd : Nat} {S : Nat → Prop} {w : World} (l : Int) (hS : ∀ b, S b → B ≤ b ∧ b < w.heap.size) (hb : S b) (h1 : w.cell? ⟨b, 1, none⟩ = some (.int .u8 (kd : Int))) (hk : kd ≠ 0) (hk2 : kd ≤ 255) :
    SK B S w (.iface 75 (.pointer (some ⟨b, 0, none⟩))) l false := by
  refine ⟨hS, fun W hW hB => ?_⟩
  have d1 := (World.cell?_of_block (a := ⟨b, 1, none⟩) (hW _ hb)).trans h1
  have lt := ltOf hS hW _ hb
  have lt1 : b < W.heap.size + 1 := by omega
  have n1 : ((kd : Int) == 0) = false := by simp; omega
  have n2 : ((kd : Int) != 0) = true := by simp; omega
  have n3 : (kd == 0) = false := by simp; omega
  have n4 : (kd != 0) = true := by simp; omega
  clear hW h1
  go_enter Try.func40, Try.ntmps40
  go_wp2_with fail
  go_ret
  exact SKP.no ((Below.refl _ _).alloc (Nat.le_refl _) _) hB
def VP (b : Nat) (L : List (Nat × Int)) (W : World) (e : Ending) (w' : World) : Prop :=
  (L = [] ∧ e = .returned (.bool false) ∧ Below W.heap.size W w') ∨
  (L ≠ [] ∧ e = .returned (.bool true) ∧ ∃ a c w1, Below W.heap.size W w1 ∧ w1.ownsRow W.heap.size 67 4 (.slice a L.length c) L.length (dcells L) ∧ w' = w1.setCell ⟨b, 0, none⟩ (.slice a L.length c))
/-- A row of the call's own as the walk reads it. -/
theorem ownRead {w : World} {B : Nat} {e : TypeId} {sz : Nat} {v : Value} {n : Nat} {xs : List Value} (h : w.ownsRow B e sz v n xs) (hsz : 0 < sz) : ∃ a c, v = .slice a n c ∧ (0 < n → ∃ g, a = some ⟨g, 0, none⟩ ∧ ∀ i, i < n * sz → w.cell? ⟨g, i, none⟩ = xs[i]?) := by
  have h' := h
  obtain ⟨_, ⟨rfl, rfl⟩ | ⟨g, cap, cur, rfl, _, hg, _⟩⟩ := h
  · exact ⟨none, 0, rfl, fun h => absurd h (by omega)⟩
  · exact ⟨_, cap, rfl, fun _ => ⟨g, rfl, fun i hi => World.ownsRow.cellAt h' i hi⟩⟩

/-- The cells xs are j items, at the q-th findIdentifiers appends Ls q. -/
def ItD (S : Nat → Prop) (w : World) (xs : List Value) (j : Nat) (Ls : Nat → List (Nat × Int)) : Prop := xs.length = j * 4 ∧ ∀ q, q < j → ∃ (d : Value) (l : Int) (dv : Value) (e1 e2 : Int), IsD d ∧ IsN dv ∧ FI S w d l (Ls q) ∧ xs[q * 4]? = some (d) ∧ xs[q * 4 + 1]? = some (.int .i32 l) ∧ xs[q * 4 + 2]? = some (dv) ∧ xs[q * 4 + 3]? = some (.int .i32 e1)
theorem ItD.keep {S : Nat → Prop} {w w' : World} {xs : List Value} {j : Nat} {Ls : Nat → List (Nat × Int)} (h : ItD S w xs j Ls) (hs : w.heap.size ≤ w'.heap.size) (hk : ∀ b, S b → w'.heap[b]? = w.heap[b]?) : ItD S w' xs j Ls :=
  ⟨h.1, fun q hq => by obtain ⟨d', l', dv', e1', e2', h1, h0, h2, x0, x1, x2, x3⟩ := h.2 q hq; exact ⟨d', l', dv', e1', e2', h1, h0, h2.keep hs hk, x0, x1, x2, x3⟩⟩
theorem ItD.more {S S' : Nat → Prop} {w : World} {xs : List Value} {j : Nat} {Ls : Nat → List (Nat × Int)} (h : ItD S w xs j Ls) (hs : ∀ b, S b → S' b) (hl : ∀ b, S' b → b < w.heap.size) : ItD S' w xs j Ls :=
  ⟨h.1, fun q hq => by obtain ⟨d', l', dv', e1', e2', h1, h0, h2, x0, x1, x2, x3⟩ := h.2 q hq; exact ⟨d', l', dv', e1', e2', h1, h0, h2.more hs hl, x0, x1, x2, x3⟩⟩
theorem ItD.snoc {S : Nat → Prop} {w : World} {xs : List Value} {j : Nat} {Ls : Nat → List (Nat × Int)} (h : ItD S w xs j Ls) (d : Value) (l : Int) (dv : Value) (e1 e2 : Int) (L : List (Nat × Int)) (hd : IsD d) (hv : IsN dv) (hb : FI S w d l L) : ItD S w (xs ++ [d, .int .i32 l, dv, .int .i32 e1]) (j + 1) (fun q => if q = j then L else Ls q) := by
  refine ⟨by simp [h.1]; omega, fun q hq => ?_⟩
  by_cases e : q = j
  · subst e
    have l1 := h.1
    refine ⟨d, l, dv, e1, e2, hd, hv, by simpa using hb, ?_, ?_, ?_, ?_⟩ <;> (rw [List.getElem?_append_right (by omega), l1]; simp)
  · obtain ⟨d', l', dv', e1', e2', h1, h0, h2, x0, x1, x2, x3⟩ := h.2 q (by omega)
    have l1 := h.1
    refine ⟨d', l', dv', e1', e2', h1, h0, by simpa [e] using h2, ?_, ?_, ?_, ?_⟩ <;> (rw [List.getElem?_append_left (by omega)]; assumption)

def VL (n : Nat) (Ls : Nat → List (Nat × Int)) (W : World) (s i : Value) (wr : World) : Prop :=
  ∃ (k : Nat) (a : Option Addr) (c : Nat), k ≤ n ∧ i = .int .i64 k ∧ .slice a (cat Ls k).length c = s ∧ Hid (wr.ownsRow W.heap.size 67 4 (.slice a (cat Ls k).length c) (cat Ls k).length (dcells (cat Ls k))) ∧ Hid (Below W.heap.size W wr)
set_option maxRecDepth 100000 in
set_option maxHeartbeats 4000000 in
theorem skVar {S : Nat → Prop} {b R n c : Nat} {xs : List Value} {Ls : Nat → List (Nat × Int)} {B2 : Nat} {w : World} (l0 : Int) (hb : S b) (hR : S R) (h0 : w.cell? ⟨b, 0, none⟩ = some (.slice (some ⟨R, 0, none⟩) n c)) (h1 : w.cell? ⟨b, 1, none⟩ = some (.int .u8 0)) (hf : w.frozen? ⟨b, 0, none⟩ = false) (ho : w.ownsRow B2 67 4 (.slice (some ⟨R, 0, none⟩) n c) n xs) (hi : ItD S w xs n Ls) (hS : ∀ k, S k → k < w.heap.size) (hn : n ≤ 1048576) (hm : (cat Ls n).length ≤ 1048576) :
    ∀ W, (∀ b, S b → W.heap[b]? = w.heap[b]?) → Calls Try.prog 40 #[.agg #[.iface 75 (.pointer (some ⟨b, 0, none⟩)), .int .i32 l0]] W (VP b (cat Ls n) W) := by
  intro W hW
  have e0 := (World.cell?_of_block (a := ⟨b, 0, none⟩) (hW _ hb)).trans h0
  have e1 := (World.cell?_of_block (a := ⟨b, 1, none⟩) (hW _ hb)).trans h1
  have f0 := (World.frozen?_of_block (a := ⟨b, 0, none⟩) (hW _ hb)).trans hf
  have HO := Lib.hid (ownKeep ho (fun k hk => by simp only [Value.ownBlock, Option.some.injEq] at hk; subst hk; exact hW _ hR))
  have HI := Lib.hid hi
  have HW := Lib.hid hW
  have HM := Lib.hid hm
  have HS := Lib.hid (ltOf (B := 0) (fun k hk => ⟨Nat.zero_le _, hS k hk⟩) hW)
  have lb : b < W.heap.size := World.block_lt_of_cell? _ _ e0
  have lb1 : b < W.heap.size + 1 := by omega
  have lb2 : b < W.heap.size + 1 + 1 := by omega
  clear h0 h1 hf ho hi hW hS hm
  go_enter Try.func40, Try.ntmps40
  go_wp2_with fail
  go_loopw [5, 65] (fun s i wr => VL n Ls W s i wr) (fun _ i _ => n - (intOf i).toNat)
  case atStart =>
    refine ⟨0, some ⟨W.heap.size + 1, 0, none⟩, 0, Nat.zero_le _, rfl, rfl, Lib.hid ⟨rfl, .inr ⟨W.heap.size + 1, 0, #[], rfl, by omega, ?_, Nat.le_refl _, by simp [maxLen], rfl, rfl⟩⟩, Lib.hid (((Below.refl _ _).alloc (Nat.le_refl _) _).alloc (by simp) _)⟩
    have h := heap_alloc_new (W.alloc (.cells #[.iface 75 (.pointer (some ⟨b, 0, none⟩)), .int .i32 l0] 33)) (.cells #[] 67)
    simpa using h
  case round =>
    obtain ⟨k, a, ca, hk, rfl, rfl, HX, HG⟩ := hrel
    by_cases hlt : k < n
    · obtain ⟨d, l, dv, e1', e2', ⟨ty, bb, rfl⟩, hnn, hfi, x0, x1, x2, x3⟩ := HI.out.2 k hlt
      have HK := Lib.hid hfi
      clear hfi
      have KW := Lib.hid (show ∀ q, S q → wr.heap[q]? = W.heap[q]? from fun q hq => HG.out.block q (HS.out q hq))
      have HR : wr.ownsRow B2 67 4 (.slice (some ⟨R, 0, none⟩) n c) n xs := ownKeep HO.out (fun q hq => by simp only [Value.ownBlock, Option.some.injEq] at hq; subst hq; exact KW.out _ hR)
      have c0 : wr.cell? ⟨R, k * 4, none⟩ = some (.iface ty (.pointer (some ⟨bb, 0, none⟩))) := by rw [World.ownsRow.cellAt HR _ (by omega)]; exact x0
      have c1 : wr.cell? ⟨R, k * 4 + 1, none⟩ = some (.int .i32 l) := by rw [World.ownsRow.cellAt HR _ (by omega)]; exact x1
      have c2 : wr.cell? ⟨R, k * 4 + 2, none⟩ = some dv := by rw [World.ownsRow.cellAt HR _ (by omega)]; exact x2
      have c3 : wr.cell? ⟨R, k * 4 + 3, none⟩ = some (.int .i32 e1') := by rw [World.ownsRow.cellAt HR _ (by omega)]; exact x3
      have lR : R < wr.heap.size := World.block_lt_of_cell? _ _ c0
      have hms : (cat Ls k).length + (Ls k).length ≤ 1048576 := by
        have h1 := cat_le Ls (show k + 1 ≤ n from hlt)
        rw [cat_succ] at h1
        have h2 := HM.out
        simp at h1
        omega
      have HMS := Lib.hid hms
      have ZW := HG.out.size
      clear x0 x1 x2 x3 HR hms
      rcases hnn with rfl | ⟨ty2, b2, rfl⟩
      all_goals
        go_wp2_with fail
        refine (HK.out.2 _ (fun q hq => (Below.heap_alloc wr _ q (by have := HS.out q hq; omega)).trans ((KW.out q hq).trans (HW.out q hq))) W.heap.size (.slice a (cat Ls k).length ca) _ _ (HX.out.alloc _) (fun q hq hs => by have h1 := (World.ownsRow.lt HX.out q hq).1; have h2 := HS.out q hs; omega) (by simp; omega) HMS.out).mono ?_
        rintro e w1 ⟨v', rfl, ho1, hg1, hl1⟩
        obtain ⟨a', c', rfl, _⟩ := ownRead ho1 (by omega)
        have HX1 := Lib.hid (show w1.ownsRow W.heap.size 67 4 (.slice a' (cat Ls (k + 1)).length c') (cat Ls (k + 1)).length (dcells (cat Ls (k + 1))) from by rw [cat_succ, dcells_app]; simpa [Nat.add_assoc] using ho1)
        have HG1 := Lib.hid (show Below W.heap.size W w1 from (HG.out.alloc ZW _).trans (gBelow hg1 (by simp; omega) (fun q hq => (World.ownsRow.lt HX.out q hq).1)))
        have EQ := Lib.hid (show (cat Ls k).length + (Ls k).length = (cat Ls (k + 1)).length by rw [cat_succ]; simp)
        clear ho1 hg1 hl1 HK HX HG KW
        go_wp2_with fail
        go_roundw
        case rel => exact ⟨k + 1, a', c', by omega, by go_num, by rw [EQ.out], HX1, HG1⟩
        case measure => simp [intOf]; omega
    · have e : k = n := by omega
      subst e
      obtain ⟨m, hm⟩ : ∃ m, m = (cat Ls k).length := ⟨_, rfl⟩
      by_cases hz : (cat Ls k).length = 0
      · have HZ := Lib.hid hz
        have HE := Lib.hid (show VP b (cat Ls k) W (.returned (.bool false)) wr from .inl ⟨List.length_eq_zero_iff.1 hz, rfl, HG.out⟩)
        rw [hz]
        clear hm hz HX
        go_wp2_with fail
        go_ret
        exact HE.out
      · have HE := Lib.hid (fun w' (hw : w' = wr.setCell ⟨b, 0, none⟩ (.slice a (cat Ls k).length ca)) => (show VP b (cat Ls k) W (.returned (.bool true)) w' from .inr ⟨fun h => hz (by simp [h]), rfl, a, ca, wr, HG.out, HX.out, hw⟩))
        have g0 := kept HG.out e0
        have g1 := keptF HG.out e0 f0
        have lbr : b < wr.heap.size := World.block_lt_of_cell? _ _ g0
        rw [← hm] at hz HE ⊢
        have n1 : ((m : Int) == 0) = false := by simp; omega
        have n3 : (m == 0) = false := by simp; omega
        clear hm HX HG
        go_wp2_with fail
        go_ret
        exact HE.out _ rfl
/-- As a statement that is kept or not. -/
theorem skVarK {B : Nat} {b : Nat} {L : List (Nat × Int)} {S : Nat → Prop} {w : World} {l0 : Int} (hS : ∀ k, S k → B ≤ k ∧ k < w.heap.size) (hb : S b) (h : ∀ W, (∀ b, S b → W.heap[b]? = w.heap[b]?) → Calls Try.prog 40 #[.agg #[.iface 75 (.pointer (some ⟨b, 0, none⟩)), .int .i32 l0]] W (VP b L W)) :
    SK B S w (.iface 75 (.pointer (some ⟨b, 0, none⟩))) l0 (!L.isEmpty) := by
  refine ⟨hS, fun W hW hB => (h W hW).mono ?_⟩
  rintro e w' (⟨rfl, rfl, hl⟩ | ⟨hne, rfl, a, c, w1, hl, _, rfl⟩)
  · exact SKP.no hl hB
  · have e : (!L.isEmpty) = true := by cases L with | nil => exact absurd rfl hne | cons => rfl
    rw [e]
    exact SKP.yes ((hl.mono hB).setCell (by simpa using (hS b hb).1) _)
end Go.Proofs.Ytppcfibhpgjnoaa
