/- Proved here: the contract of checkForUnusedTSImportEquals. Conditions as stated. -/
import Derived.Test.YthgcchgpplblbaaDoorUXD
import Derived.WalkKit
import Derived.WalkSpells
import Derived.WalkLawsBesides
import Derived.Lib.Hide
import Derived.Lib.SliceRun
import Derived.Deep.RegionWith
import Derived.OwnWalk
import Derived.Laws.OwnMore
import Derived.BigRegion
import Derived.Carry
import Derived.IntWalk
import Derived.Deep.QuietTactic
import Derived.BigQuiet
import Derived.Deep.LoopGhost
namespace Go.Proofs.YthgcchgpplblbaaDoor
open Go.RowKit
set_option linter.unusedSimpArgs false
set_option linter.unusedVariables false

namespace UX
theorem KY.refl (Y : Nat) (w : World) : KY Y w w := ⟨Below.refl 0 w, fun _ _ _ => rfl⟩
theorem KY.trans {Y : Nat} {a b c : World} (h1 : KY Y a b) (h2 : KY Y b c) : KY Y a c := ⟨h1.1.trans h2.1, fun x hx hy => (h2.2 x (Nat.lt_of_lt_of_le hx h1.1.size) hy).trans (h1.2 x hx hy)⟩
theorem KY.at {Y : Nat} {w w' : World} (h : KY Y w w') {x t : Nat} {cs : Array Value} (hat : At w x t cs) (hx : x ≠ Y) : At w' x t cs := (h.2 x hat.lt hx).trans hat
/-- All blocks that were there are as they were, but Y and r. -/
def KZ (Y r : Nat) (w w' : World) : Prop := Below 0 w w' ∧ ∀ x, x < w.heap.size → x ≠ Y → x ≠ r → w'.heap[x]? = w.heap[x]?
theorem PX.of_block {w w' : World} {p Y n : Nat} (h : PX w p Y n) (e : w'.heap[p]? = w.heap[p]?) : PX w' p Y n := by
  obtain ⟨h1, h2, h3, cs, h4⟩ := h
  exact ⟨(World.cell?_of_block (a := ⟨p, 106, none⟩) e).trans h1, (World.cell?_of_block (a := ⟨p, 350, none⟩) e).trans h2, (World.cell?_of_block (a := ⟨p, 105, none⟩) e).trans h3, cs, e.trans h4⟩
theorem PX.lt {w : World} {p Y n : Nat} (h : PX w p Y n) : p < w.heap.size := by obtain ⟨_, _, _, cs, h⟩ := h; exact h.lt
theorem PX.below {w w' : World} {p Y n : Nat} (h : PX w p Y n) (hb : Below w.heap.size w w') : PX w' p Y n := h.of_block (hb.block p h.lt)
theorem SYM.of_block {w w' : World} {Y n : Nat} {C : List Int} (h : SYM w Y n C) (e : w'.heap[Y]? = w.heap[Y]?) : SYM w' Y n C := by
  obtain ⟨cs, h1, h2⟩ := h
  exact ⟨cs, e.trans h1, h2⟩
theorem SYM.lt {w : World} {Y n : Nat} {C : List Int} (h : SYM w Y n C) : Y < w.heap.size := by obtain ⟨_, h1, _⟩ := h; exact h1.lt
theorem SYM.below {w w' : World} {Y n : Nat} {C : List Int} (h : SYM w Y n C) (hb : Below w.heap.size w w') : SYM w' Y n C := h.of_block (hb.block Y h.lt)
theorem SYM.len {w : World} {Y n : Nat} {C : List Int} (h : SYM w Y n C) : C.length = n := by obtain ⟨_, _, _, h1, _⟩ := h; exact h1
theorem SYM.ne {w : World} {Y n : Nat} {C : List Int} (h : SYM w Y n C) {x t : Nat} {cs : Array Value} (hat : At w x t cs) (ht : t ≠ 54) : x ≠ Y := by obtain ⟨_, h1, _⟩ := h; exact atNe hat h1 ht
theorem PX.neY {w : World} {p Y n : Nat} {C : List Int} (h : PX w p Y n) (hs : SYM w Y n C) : p ≠ Y := by obtain ⟨_, _, _, cs, h⟩ := h; exact hs.ne h (by decide)
theorem PX.ne {w : World} {p Y n : Nat} (h : PX w p Y n) {x t : Nat} {cs : Array Value} (hat : At w x t cs) (ht : t ≠ 175) : x ≠ p := by obtain ⟨_, _, _, cs', h⟩ := h; exact atNe hat h ht
theorem KZ.of_below {Y r : Nat} {w w' : World} (h : Below w.heap.size w w') : KZ Y r w w' := ⟨h.mono (Nat.zero_le _), fun x hx _ _ => h.block x hx⟩
theorem KZ.trans {Y r : Nat} {a b c : World} (h1 : KZ Y r a b) (h2 : KZ Y r b c) : KZ Y r a c := ⟨h1.1.trans h2.1, fun x hx hy hr => (h2.2 x (Nat.lt_of_lt_of_le hx h1.1.size) hy hr).trans (h1.2 x hx hy hr)⟩
theorem KZ.of_ky {Y r : Nat} {w w' : World} (h : KY Y w w') : KZ Y r w w' := ⟨h.1, fun x hx hy _ => h.2 x hx hy⟩
theorem KZ.set {Y r i : Nat} {w : World} (v : Value) : KZ Y r w (w.setCell ⟨r, i, none⟩ v) := ⟨(Below.refl 0 w).setCell (Nat.zero_le _) _, fun x _ _ hr => Below.heap_setCell _ _ _ x (by simpa using hr)⟩
theorem chkSkip (p sl r : Nat) (ie ex : Bool) (b : Int) (val : Value) (w : World) (h : LOC w sl ie ex b val) (hs : (ie && !ex) = false) : Calls Tryd.prog 19 #[.pointer (some ⟨p, 0, none⟩), .pointer (some ⟨sl, 0, none⟩), .pointer (some ⟨r, 0, none⟩)] w fun e w' => e = .returned (.bool false) ∧ w = w' := by
  obtain ⟨dl, bl, lo, h1, _, _⟩ := h
  have c2 : w.cell? ⟨sl, 2, none⟩ = some (.bool ex) := by rw [h1.cell]; rfl
  have c3 : w.cell? ⟨sl, 3, none⟩ = some (.bool ie) := by rw [h1.cell]; rfl
  have l1 := h1.lt
  clear h1
  cases ie <;> cases ex <;> simp at hs
  all_goals
    go_enter Tryd.func19, Tryd.ntmps19
    go_wp2_with fail
    go_ret
    exact ⟨rfl, rfl⟩
def CHrel (v : Int) (k : Nat) (w : World) (d2 d3 : Value) (bl : Nat) (lo : Int) (d : Nat) (wr : World) : Prop := ∃ (val : Value) (l : Int), Hid (At wr (w.heap.size + 1) 154 #[val, .int .i32 l] ∧ VAL wr v val k d ∧ Below w.heap.size w wr ∧ At wr w.heap.size 200 #[.iface 192 (.pointer (some ⟨bl, 0, none⟩)), .int .i32 lo, d2, d3])
def CKP (p Y n r : Nat) (C : List Int) (bN vN : Nat) (stv : Value) (kp0 rm0 : Bool) (w : World) (e : Ending) (w' : World) : Prop :=
  ∃ C' k2 r2, e = .returned (.bool (C.getD bN 0 == 0)) ∧ SYM w' Y n C' ∧ At w' r 178 #[stv, .bool k2, .bool r2] ∧ KZ Y r w w' ∧ (C.getD bN 0 = 0 → r2 = true ∧ C'.length = n) ∧ (C.getD bN 0 ≠ 0 → C' = C ∧ r2 = rm0)

set_option maxRecDepth 100000 in
set_option maxHeartbeats 8000000 in
theorem chk1 (p Y n sl r bN vN d0 : Nat) (C : List Int) (stv : Value) (kp0 rm0 : Bool) (val : Value) (w : World) (hp : PX w p Y n) (hs : SYM w Y n C) (h : LOC w sl true false bN val) (hv : VAL w vN val 1 d0) (hr : At w r 178 #[stv, .bool kp0, .bool rm0]) (hb : bN < n) (hvn : vN < n) (hn : n ≤ 4096) (hg0 : w.cell? ⟨0, 0, none⟩ = some (.int .u32 4294967295)) (hg1 : w.cell? ⟨0, 1, none⟩ = some (.int .u32 4294967295)) :
    Calls Tryd.prog 19 #[.pointer (some ⟨p, 0, none⟩), .pointer (some ⟨sl, 0, none⟩), .pointer (some ⟨r, 0, none⟩)] w (CKP p Y n r C bN vN stv kp0 rm0 w) := by
  obtain ⟨dl, bl, lo, h1, h2, h3⟩ := h
  have c0 : w.cell? ⟨sl, 0, none⟩ = some (.slice (some ⟨dl, 0, none⟩) 1 1) := by rw [h1.cell]; rfl
  have c2 : w.cell? ⟨sl, 2, none⟩ = some (.bool false) := by rw [h1.cell]; rfl
  have c3 : w.cell? ⟨sl, 3, none⟩ = some (.bool true) := by rw [h1.cell]; rfl
  have l1 := h1.lt
  have l2 := h2.lt
  have HP := Lib.hid hp
  have HS := Lib.hid hs
  have HV := Lib.hid hv
  have HR := Lib.hid hr
  have H3 := Lib.hid h3
  have HG := Lib.hid (⟨hg0, hg1⟩ : w.cell? ⟨0, 0, none⟩ = some (.int .u32 4294967295) ∧ w.cell? ⟨0, 1, none⟩ = some (.int .u32 4294967295))
  have HN := Lib.hid (⟨hb, hvn, hn⟩ : bN < n ∧ vN < n ∧ n ≤ 4096)
  have e0 : w.cell? ⟨dl, 0, none⟩ = some (.iface 192 (.pointer (some ⟨bl, 0, none⟩))) := by rw [h2.cell]; rfl
  have e1 : w.cell? ⟨dl, 1, none⟩ = some (.int .i32 lo) := by rw [h2.cell]; rfl
  have e2 : w.cell? ⟨dl, 2, none⟩ = some val := by rw [h2.cell]; rfl
  have e3 : w.cell? ⟨dl, 3, none⟩ = some (.int .i32 0) := by rw [h2.cell]; rfl
  clear h1 h2 h3 hp hs hv hr hg0 hg1 hb hvn hn
  have hl1 : sl < w.heap.size + 1 := by omega
  have hl2 : dl < w.heap.size + 1 := by omega
  rcases HV.out.form with rfl | ⟨T2, b2, rfl⟩
  · exact absurd HV.out (by intro h; cases h)
  · go_enter Tryd.func19, Tryd.ntmps19
    go_wp2_with fail
    go_loopg [9, 10] (d0) (fun d s9 s10 wr => CHrel vN 1 w (.iface T2 (.pointer (some ⟨b2, 0, none⟩))) (.int .i32 0) bl lo d wr)
    case atStart => exact ⟨_, _, Lib.hid ⟨at2 _ _ _ _, HV.out.keep (KX.below (by repeat (first | with_reducible exact Below.refl _ _ | (with_reducible refine Below.drew ?_) | (with_reducible refine Below.alloc ?_ (by simp; try omega) _) | (with_reducible refine Below.setCell ?_ (by simp; try omega) _)))), (by repeat (first | with_reducible exact Below.refl _ _ | (with_reducible refine Below.drew ?_) | (with_reducible refine Below.alloc ?_ (by simp; try omega) _) | (with_reducible refine Below.setCell ?_ (by simp; try omega) _))), (At.new w 200 _).alloc _⟩⟩
    case round =>
      obtain ⟨val, l, H⟩ := hrel
      have q0 : wr.cell? ⟨w.heap.size + 1, 0, none⟩ = some val := by rw [H.out.1.cell]; rfl
      have q1 : wr.cell? ⟨w.heap.size + 1, 1, none⟩ = some (.int .i32 l) := by rw [H.out.1.cell]; rfl
      have qf0 := H.out.1.frozen 0
      have qf1 := H.out.1.frozen 1
      have lq := H.out.1.lt
      have hw0 := H.out.2.2.1.size
      have HVV := H.out.2.1
      clear c0 c2 c3 l1 l2 e0 e1 e2 e3 hl1 hl2
      cases HVV with
      | dot b t k d hb hv =>
        have d0 : wr.cell? ⟨b, 0, none⟩ = some t := by rw [hb.cell]; rfl
        have d1 : wr.cell? ⟨b, 1, none⟩ = some (.int .i32 0) := by rw [hb.cell]; rfl
        have lb := hb.lt
        have HD := Lib.hid hv
        have HN1 := Lib.hid (atNe hb H.out.1 (by decide))
        clear hb
        rcases hv.form with rfl | ⟨T3, b3, rfl⟩
        all_goals
          clear hv
          go_wp2_with fail
          go_roundg (d)
          case measure => omega
          case rel => exact ⟨_, _, Lib.hid ⟨(H.out.1.set 0 _).set 1 (.int .i32 0), HD.out.far154 _ _ H.out.1, (H.out.2.2.1.setCell (by simp) _).setCell (by simp) _, (H.out.2.2.2.far (by simp) _).far (by simp) _⟩⟩
      | id b hb =>
        have d0 : wr.cell? ⟨b, 0, none⟩ = some (.int .u32 0) := by rw [hb.cell]; rfl
        have d1 : wr.cell? ⟨b, 1, none⟩ = some (.int .u32 vN) := by rw [hb.cell]; rfl
        have lb := hb.lt
        have lb1 : b < wr.heap.size + 1 := by omega
        have HG2 := Lib.hid (show wr.cell? ⟨0, 0, none⟩ = some (.int .u32 4294967295) ∧ wr.cell? ⟨0, 1, none⟩ = some (.int .u32 4294967295) from ⟨kept H.out.2.2.1 HG.out.1, kept H.out.2.2.1 HG.out.2⟩)
        have g0 := HG2.out.1
        have g1 := HG2.out.2
        have lg0 : 0 < wr.heap.size := by omega
        have A7 := H.out.2.2.2
        have b0 : wr.cell? ⟨w.heap.size, 0, none⟩ = some (.iface 192 (.pointer (some ⟨bl, 0, none⟩))) := by rw [A7.cell]; rfl
        have l7 := A7.lt
        have A3 := H3.out.below H.out.2.2.1 H3.out.lt
        have b1 : wr.cell? ⟨bl, 0, none⟩ = some (.int .u32 0) := by rw [A3.cell]; rfl
        have b2 : wr.cell? ⟨bl, 1, none⟩ = some (.int .u32 bN) := by rw [A3.cell]; rfl
        have lbl := A3.lt
        have l7' : w.heap.size < wr.heap.size + 1 := by omega
        have lbl' : bl < wr.heap.size + 1 := by omega
        have hvm : ((vN : Int) == 4294967295) = false := by have := HN.out; rw [beq_eq_false_iff_ne]; omega
        clear A7 A3 hb
        go_wp2_with fail
        obtain ⟨U, hU⟩ : ∃ U, U = (wr.alloc (.cells #[.int .u32 0, .int .u32 vN] 46)).alloc (.cells #[.int .u32 0, .int .u32 bN] 46) := ⟨_, rfl⟩
        have hbU : Below wr.heap.size wr U := by rw [hU]; exact ((Below.refl _ _).alloc (Nat.le_refl _) _).alloc (by simp) _
        have A11 : At U wr.heap.size 46 #[.int .u32 0, .int .u32 vN] := by rw [hU]; exact (At.new wr 46 _).alloc _
        have A14 : At U (wr.heap.size + 1) 46 #[.int .u32 0, .int .u32 bN] := by rw [hU]; exact at2 _ _ _ _
        rw [← hU]
        have HBU := Lib.hid (H.out.2.2.1.trans (hbU.mono H.out.2.2.1.size))
        clear hU hbU d0 d1 lb lb1 g0 g1 lg0 b0 l7 b1 b2 lbl l7' lbl' q0 q1 qf0 qf1 lq
        have HPU := Lib.hid (HP.out.below HBU.out)
        have HSU := Lib.hid (HS.out.below HBU.out)
        obtain ⟨cs, hY, hsz, hC, hcs⟩ := HSU.out
        have x1 := HPU.out.s
        have lp := HPU.out.lt
        have x2 : U.cell? ⟨wr.heap.size + 1, 1, none⟩ = some (.int .u32 bN) := by rw [A14.cell]; rfl
        have l14 := A14.lt
        have hbn := HN.out.1
        have x3 : U.cell? ⟨Y, bN * 10 + 4, none⟩ = some (.int .u32 (C.getD bN 0)) := by rw [hY.cell]; exact hcs bN hbn
        have lY := hY.lt
        have hb0 : (0 : Int) ≤ (bN : Int) := Int.natCast_nonneg _
        have hb1 : (bN : Int) < (n : Int) := by omega
        have HA11 := Lib.hid A11
        obtain ⟨cb, hcb⟩ : ∃ cb, cb = C.getD bN 0 := ⟨_, rfl⟩
        rw [← hcb] at x3
        have HCB := Lib.hid hcb
        clear hcb hbn hY hsz hC hcs A11 A14
        go_quiet (fail)
        obtain ⟨V, hV⟩ : ∃ V, V = U.drewN nq := ⟨_, rfl⟩
        have HBV := Lib.hid (show Below w.heap.size w V from by rw [hV]; exact below_drewN HBU.out _)
        have HPV := Lib.hid (show PX V p Y n from by rw [hV]; exact HPU.out.of_block rfl)
        have HSV := Lib.hid (show SYM V Y n C from by rw [hV]; exact HSU.out)
        have HA := Lib.hid (show At V wr.heap.size 46 #[.int .u32 0, .int .u32 vN] from by rw [hV]; exact HA11.out)
        rw [← hV]
        clear hV x1 x2 x3 lp lY l14 HPU HSU HBU HA11
        by_cases hc0 : cb = 0
        · have hc1 : (cb == 0) = true := by simp [hc0]
          have HC0 := Lib.hid (HCB.out ▸ hc0 : C.getD bN 0 = 0)
          clear hc0
          have y0 : V.cell? ⟨wr.heap.size, 0, none⟩ = some (.int .u32 0) := by rw [HA.out.cell]; rfl
          have y1 : V.cell? ⟨wr.heap.size, 1, none⟩ = some (.int .u32 vN) := by rw [HA.out.cell]; rfl
          have ly := HA.out.lt
          have HIU := Lib.hid (ignU p Y n vN C V HPV.out HSV.out HN.out.2.1)
          go_wp2_with fail
          refine HIU.out.mono ?_
          rintro e w3 ⟨rfl, hs3, hk3⟩
          have HRV := HR.out.below HBV.out HR.out.lt
          have HR3 := Lib.hid (hk3.at HRV (HSV.out.ne HRV (by decide)))
          have r2 : w3.cell? ⟨r, 2, none⟩ = some (.bool rm0) := by rw [HR3.out.cell]; rfl
          have rf2 := HR3.out.frozen 2
          have lr := HR3.out.lt
          have HS3 := Lib.hid hs3
          have HK3 := Lib.hid (KZ.trans (r := r) (KZ.of_below HBV.out) (KZ.of_ky hk3))
          clear hs3 hk3 HRV y0 y1 ly HIU
          go_wp2_with fail
          go_ret
          exact ⟨decC C vN, kp0, true, by rw [HC0.out]; rfl, HS3.out.of_block (Below.heap_setCell _ _ _ Y (by simpa using (HS3.out.ne HR3.out (by decide)).symm)), HR3.out.set 2 _, HK3.out.trans (KZ.set _), fun _ => ⟨rfl, HS3.out.len⟩, fun h => absurd HC0.out h⟩
        · have hc1 : (cb == 0) = false := by rw [beq_eq_false_iff_ne]; exact hc0
          have HC0 := Lib.hid (HCB.out ▸ hc0 : ¬ C.getD bN 0 = 0)
          clear hc0
          have HRV := Lib.hid (HR.out.below HBV.out HR.out.lt)
          have r1 : V.cell? ⟨r, 1, none⟩ = some (.bool kp0) := by rw [HRV.out.cell]; rfl
          have rf1 := HRV.out.frozen 1
          have lr := HRV.out.lt
          go_wp2_with fail
          go_ret
          exact ⟨C, true, rm0, by simpa using HC0.out, HSV.out.of_block (Below.heap_setCell _ _ _ Y (by simpa using (HSV.out.ne HRV.out (by decide)).symm)), HRV.out.set 1 _, (KZ.of_below HBV.out).trans (KZ.set _), fun h => absurd h HC0.out, fun _ => ⟨rfl, rfl⟩⟩

set_option maxRecDepth 100000 in
set_option maxHeartbeats 8000000 in
theorem chk2 (p Y n sl r bN vN d0 : Nat) (C : List Int) (stv : Value) (kp0 rm0 : Bool) (val : Value) (w : World) (hp : PX w p Y n) (hs : SYM w Y n C) (h : LOC w sl true false bN val) (hv : VAL w vN val 2 d0) (hr : At w r 178 #[stv, .bool kp0, .bool rm0]) (hb : bN < n) (hvn : vN < n) (hn : n ≤ 4096) (hg0 : w.cell? ⟨0, 0, none⟩ = some (.int .u32 4294967295)) (hg1 : w.cell? ⟨0, 1, none⟩ = some (.int .u32 4294967295)) :
    Calls Tryd.prog 19 #[.pointer (some ⟨p, 0, none⟩), .pointer (some ⟨sl, 0, none⟩), .pointer (some ⟨r, 0, none⟩)] w (CKP p Y n r C bN vN stv kp0 rm0 w) := by
  obtain ⟨dl, bl, lo, h1, h2, h3⟩ := h
  have c0 : w.cell? ⟨sl, 0, none⟩ = some (.slice (some ⟨dl, 0, none⟩) 1 1) := by rw [h1.cell]; rfl
  have c2 : w.cell? ⟨sl, 2, none⟩ = some (.bool false) := by rw [h1.cell]; rfl
  have c3 : w.cell? ⟨sl, 3, none⟩ = some (.bool true) := by rw [h1.cell]; rfl
  have l1 := h1.lt
  have l2 := h2.lt
  have HP := Lib.hid hp
  have HS := Lib.hid hs
  have HV := Lib.hid hv
  have HR := Lib.hid hr
  have H3 := Lib.hid h3
  have HG := Lib.hid (⟨hg0, hg1⟩ : w.cell? ⟨0, 0, none⟩ = some (.int .u32 4294967295) ∧ w.cell? ⟨0, 1, none⟩ = some (.int .u32 4294967295))
  have HN := Lib.hid (⟨hb, hvn, hn⟩ : bN < n ∧ vN < n ∧ n ≤ 4096)
  have e0 : w.cell? ⟨dl, 0, none⟩ = some (.iface 192 (.pointer (some ⟨bl, 0, none⟩))) := by rw [h2.cell]; rfl
  have e1 : w.cell? ⟨dl, 1, none⟩ = some (.int .i32 lo) := by rw [h2.cell]; rfl
  have e2 : w.cell? ⟨dl, 2, none⟩ = some val := by rw [h2.cell]; rfl
  have e3 : w.cell? ⟨dl, 3, none⟩ = some (.int .i32 0) := by rw [h2.cell]; rfl
  clear h1 h2 h3 hp hs hv hr hg0 hg1 hb hvn hn
  have hl1 : sl < w.heap.size + 1 := by omega
  have hl2 : dl < w.heap.size + 1 := by omega
  rcases HV.out.form with rfl | ⟨T2, b2, rfl⟩
  · exact absurd HV.out (by intro h; cases h)
  · go_enter Tryd.func19, Tryd.ntmps19
    go_wp2_with fail
    go_loopg [9, 10] (d0) (fun d s9 s10 wr => CHrel vN 2 w (.iface T2 (.pointer (some ⟨b2, 0, none⟩))) (.int .i32 0) bl lo d wr)
    case atStart => exact ⟨_, _, Lib.hid ⟨at2 _ _ _ _, HV.out.keep (KX.below (by repeat (first | with_reducible exact Below.refl _ _ | (with_reducible refine Below.drew ?_) | (with_reducible refine Below.alloc ?_ (by simp; try omega) _) | (with_reducible refine Below.setCell ?_ (by simp; try omega) _)))), (by repeat (first | with_reducible exact Below.refl _ _ | (with_reducible refine Below.drew ?_) | (with_reducible refine Below.alloc ?_ (by simp; try omega) _) | (with_reducible refine Below.setCell ?_ (by simp; try omega) _))), (At.new w 200 _).alloc _⟩⟩
    case round =>
      obtain ⟨val, l, H⟩ := hrel
      have q0 : wr.cell? ⟨w.heap.size + 1, 0, none⟩ = some val := by rw [H.out.1.cell]; rfl
      have q1 : wr.cell? ⟨w.heap.size + 1, 1, none⟩ = some (.int .i32 l) := by rw [H.out.1.cell]; rfl
      have qf0 := H.out.1.frozen 0
      have qf1 := H.out.1.frozen 1
      have lq := H.out.1.lt
      have hw0 := H.out.2.2.1.size
      have HVV := H.out.2.1
      clear c0 c2 c3 l1 l2 e0 e1 e2 e3 hl1 hl2
      cases HVV with
      | dot b t k d hb hv =>
        have d0 : wr.cell? ⟨b, 0, none⟩ = some t := by rw [hb.cell]; rfl
        have d1 : wr.cell? ⟨b, 1, none⟩ = some (.int .i32 0) := by rw [hb.cell]; rfl
        have lb := hb.lt
        have HD := Lib.hid hv
        have HN1 := Lib.hid (atNe hb H.out.1 (by decide))
        clear hb
        rcases hv.form with rfl | ⟨T3, b3, rfl⟩
        all_goals
          clear hv
          go_wp2_with fail
          go_roundg (d)
          case measure => omega
          case rel => exact ⟨_, _, Lib.hid ⟨(H.out.1.set 0 _).set 1 (.int .i32 0), HD.out.far154 _ _ H.out.1, (H.out.2.2.1.setCell (by simp) _).setCell (by simp) _, (H.out.2.2.2.far (by simp) _).far (by simp) _⟩⟩
      | im b hb =>
        have d0 : wr.cell? ⟨b, 0, none⟩ = some (.int .u32 0) := by rw [hb.cell]; rfl
        have d1 : wr.cell? ⟨b, 1, none⟩ = some (.int .u32 vN) := by rw [hb.cell]; rfl
        have lb := hb.lt
        have lb1 : b < wr.heap.size + 1 := by omega
        have HG2 := Lib.hid (show wr.cell? ⟨0, 0, none⟩ = some (.int .u32 4294967295) ∧ wr.cell? ⟨0, 1, none⟩ = some (.int .u32 4294967295) from ⟨kept H.out.2.2.1 HG.out.1, kept H.out.2.2.1 HG.out.2⟩)
        have g0 := HG2.out.1
        have g1 := HG2.out.2
        have lg0 : 0 < wr.heap.size := by omega
        have A7 := H.out.2.2.2
        have b0 : wr.cell? ⟨w.heap.size, 0, none⟩ = some (.iface 192 (.pointer (some ⟨bl, 0, none⟩))) := by rw [A7.cell]; rfl
        have l7 := A7.lt
        have A3 := H3.out.below H.out.2.2.1 H3.out.lt
        have b1 : wr.cell? ⟨bl, 0, none⟩ = some (.int .u32 0) := by rw [A3.cell]; rfl
        have b2 : wr.cell? ⟨bl, 1, none⟩ = some (.int .u32 bN) := by rw [A3.cell]; rfl
        have lbl := A3.lt
        have l7' : w.heap.size < wr.heap.size + 1 := by omega
        have lbl' : bl < wr.heap.size + 1 := by omega
        have hvm : ((vN : Int) == 4294967295) = false := by have := HN.out; rw [beq_eq_false_iff_ne]; omega
        clear A7 A3 hb
        go_wp2_with fail
        obtain ⟨U, hU⟩ : ∃ U, U = (wr.alloc (.cells #[.int .u32 0, .int .u32 vN] 46)).alloc (.cells #[.int .u32 0, .int .u32 bN] 46) := ⟨_, rfl⟩
        have hbU : Below wr.heap.size wr U := by rw [hU]; exact ((Below.refl _ _).alloc (Nat.le_refl _) _).alloc (by simp) _
        have A11 : At U wr.heap.size 46 #[.int .u32 0, .int .u32 vN] := by rw [hU]; exact (At.new wr 46 _).alloc _
        have A14 : At U (wr.heap.size + 1) 46 #[.int .u32 0, .int .u32 bN] := by rw [hU]; exact at2 _ _ _ _
        rw [← hU]
        have HBU := Lib.hid (H.out.2.2.1.trans (hbU.mono H.out.2.2.1.size))
        clear hU hbU d0 d1 lb lb1 g0 g1 lg0 b0 l7 b1 b2 lbl l7' lbl' q0 q1 qf0 qf1 lq
        have HPU := Lib.hid (HP.out.below HBU.out)
        have HSU := Lib.hid (HS.out.below HBU.out)
        obtain ⟨cs, hY, hsz, hC, hcs⟩ := HSU.out
        have x1 := HPU.out.s
        have lp := HPU.out.lt
        have x2 : U.cell? ⟨wr.heap.size + 1, 1, none⟩ = some (.int .u32 bN) := by rw [A14.cell]; rfl
        have l14 := A14.lt
        have hbn := HN.out.1
        have x3 : U.cell? ⟨Y, bN * 10 + 4, none⟩ = some (.int .u32 (C.getD bN 0)) := by rw [hY.cell]; exact hcs bN hbn
        have lY := hY.lt
        have hb0 : (0 : Int) ≤ (bN : Int) := Int.natCast_nonneg _
        have hb1 : (bN : Int) < (n : Int) := by omega
        have HA11 := Lib.hid A11
        obtain ⟨cb, hcb⟩ : ∃ cb, cb = C.getD bN 0 := ⟨_, rfl⟩
        rw [← hcb] at x3
        have HCB := Lib.hid hcb
        clear hcb hbn hY hsz hC hcs A11 A14
        go_quiet (fail)
        obtain ⟨V, hV⟩ : ∃ V, V = U.drewN nq := ⟨_, rfl⟩
        have HBV := Lib.hid (show Below w.heap.size w V from by rw [hV]; exact below_drewN HBU.out _)
        have HPV := Lib.hid (show PX V p Y n from by rw [hV]; exact HPU.out.of_block rfl)
        have HSV := Lib.hid (show SYM V Y n C from by rw [hV]; exact HSU.out)
        have HA := Lib.hid (show At V wr.heap.size 46 #[.int .u32 0, .int .u32 vN] from by rw [hV]; exact HA11.out)
        rw [← hV]
        clear hV x1 x2 x3 lp lY l14 HPU HSU HBU HA11
        by_cases hc0 : cb = 0
        · have hc1 : (cb == 0) = true := by simp [hc0]
          have HC0 := Lib.hid (HCB.out ▸ hc0 : C.getD bN 0 = 0)
          clear hc0
          have y0 : V.cell? ⟨wr.heap.size, 0, none⟩ = some (.int .u32 0) := by rw [HA.out.cell]; rfl
          have y1 : V.cell? ⟨wr.heap.size, 1, none⟩ = some (.int .u32 vN) := by rw [HA.out.cell]; rfl
          have ly := HA.out.lt
          have HIU := Lib.hid (ignU p Y n vN C V HPV.out HSV.out HN.out.2.1)
          go_wp2_with fail
          refine HIU.out.mono ?_
          rintro e w3 ⟨rfl, hs3, hk3⟩
          have HRV := HR.out.below HBV.out HR.out.lt
          have HR3 := Lib.hid (hk3.at HRV (HSV.out.ne HRV (by decide)))
          have r2 : w3.cell? ⟨r, 2, none⟩ = some (.bool rm0) := by rw [HR3.out.cell]; rfl
          have rf2 := HR3.out.frozen 2
          have lr := HR3.out.lt
          have HS3 := Lib.hid hs3
          have HK3 := Lib.hid (KZ.trans (r := r) (KZ.of_below HBV.out) (KZ.of_ky hk3))
          clear hs3 hk3 HRV y0 y1 ly HIU
          go_wp2_with fail
          go_ret
          exact ⟨decC C vN, kp0, true, by rw [HC0.out]; rfl, HS3.out.of_block (Below.heap_setCell _ _ _ Y (by simpa using (HS3.out.ne HR3.out (by decide)).symm)), HR3.out.set 2 _, HK3.out.trans (KZ.set _), fun _ => ⟨rfl, HS3.out.len⟩, fun h => absurd HC0.out h⟩
        · have hc1 : (cb == 0) = false := by rw [beq_eq_false_iff_ne]; exact hc0
          have HC0 := Lib.hid (HCB.out ▸ hc0 : ¬ C.getD bN 0 = 0)
          clear hc0
          have HRV := Lib.hid (HR.out.below HBV.out HR.out.lt)
          have r1 : V.cell? ⟨r, 1, none⟩ = some (.bool kp0) := by rw [HRV.out.cell]; rfl
          have rf1 := HRV.out.frozen 1
          have lr := HRV.out.lt
          go_wp2_with fail
          go_ret
          exact ⟨C, true, rm0, by simpa using HC0.out, HSV.out.of_block (Below.heap_setCell _ _ _ Y (by simpa using (HSV.out.ne HRV.out (by decide)).symm)), HRV.out.set 1 _, (KZ.of_below HBV.out).trans (KZ.set _), fun h => absurd h HC0.out, fun _ => ⟨rfl, rfl⟩⟩

set_option maxRecDepth 100000 in
set_option maxHeartbeats 8000000 in
theorem chk5 (p Y n sl r bN vN d0 : Nat) (C : List Int) (stv : Value) (kp0 rm0 : Bool) (val : Value) (w : World) (hp : PX w p Y n) (hs : SYM w Y n C) (h : LOC w sl true false bN val) (hv : VAL w vN val 5 d0) (hr : At w r 178 #[stv, .bool kp0, .bool rm0]) (hb : bN < n) (hvn : vN < n) (hn : n ≤ 4096) (hg0 : w.cell? ⟨0, 0, none⟩ = some (.int .u32 4294967295)) (hg1 : w.cell? ⟨0, 1, none⟩ = some (.int .u32 4294967295)) :
    Calls Tryd.prog 19 #[.pointer (some ⟨p, 0, none⟩), .pointer (some ⟨sl, 0, none⟩), .pointer (some ⟨r, 0, none⟩)] w fun e w' => e = .returned (.bool false) ∧ Below w.heap.size w w' := by
  obtain ⟨dl, bl, lo, h1, h2, h3⟩ := h
  have c0 : w.cell? ⟨sl, 0, none⟩ = some (.slice (some ⟨dl, 0, none⟩) 1 1) := by rw [h1.cell]; rfl
  have c2 : w.cell? ⟨sl, 2, none⟩ = some (.bool false) := by rw [h1.cell]; rfl
  have c3 : w.cell? ⟨sl, 3, none⟩ = some (.bool true) := by rw [h1.cell]; rfl
  have l1 := h1.lt
  have l2 := h2.lt
  have HP := Lib.hid hp
  have HS := Lib.hid hs
  have HV := Lib.hid hv
  have HR := Lib.hid hr
  have H3 := Lib.hid h3
  have HG := Lib.hid (⟨hg0, hg1⟩ : w.cell? ⟨0, 0, none⟩ = some (.int .u32 4294967295) ∧ w.cell? ⟨0, 1, none⟩ = some (.int .u32 4294967295))
  have HN := Lib.hid (⟨hb, hvn, hn⟩ : bN < n ∧ vN < n ∧ n ≤ 4096)
  have e0 : w.cell? ⟨dl, 0, none⟩ = some (.iface 192 (.pointer (some ⟨bl, 0, none⟩))) := by rw [h2.cell]; rfl
  have e1 : w.cell? ⟨dl, 1, none⟩ = some (.int .i32 lo) := by rw [h2.cell]; rfl
  have e2 : w.cell? ⟨dl, 2, none⟩ = some val := by rw [h2.cell]; rfl
  have e3 : w.cell? ⟨dl, 3, none⟩ = some (.int .i32 0) := by rw [h2.cell]; rfl
  clear h1 h2 h3 hp hs hv hr hg0 hg1 hb hvn hn
  have hl1 : sl < w.heap.size + 1 := by omega
  have hl2 : dl < w.heap.size + 1 := by omega
  rcases HV.out.form with rfl | ⟨T2, b2, rfl⟩
  · go_enter Tryd.func19, Tryd.ntmps19
    go_wp2_with fail
    go_loopg [9, 10] (d0) (fun d s9 s10 wr => CHrel vN 5 w .nilIface (.int .i32 0) bl lo d wr)
    case atStart => exact ⟨_, _, Lib.hid ⟨at2 _ _ _ _, HV.out.keep (KX.below (by repeat (first | with_reducible exact Below.refl _ _ | (with_reducible refine Below.drew ?_) | (with_reducible refine Below.alloc ?_ (by simp; try omega) _) | (with_reducible refine Below.setCell ?_ (by simp; try omega) _)))), (by repeat (first | with_reducible exact Below.refl _ _ | (with_reducible refine Below.drew ?_) | (with_reducible refine Below.alloc ?_ (by simp; try omega) _) | (with_reducible refine Below.setCell ?_ (by simp; try omega) _))), (At.new w 200 _).alloc _⟩⟩
    case round =>
      obtain ⟨val, l, H⟩ := hrel
      have q0 : wr.cell? ⟨w.heap.size + 1, 0, none⟩ = some val := by rw [H.out.1.cell]; rfl
      have q1 : wr.cell? ⟨w.heap.size + 1, 1, none⟩ = some (.int .i32 l) := by rw [H.out.1.cell]; rfl
      have qf0 := H.out.1.frozen 0
      have qf1 := H.out.1.frozen 1
      have lq := H.out.1.lt
      have hw0 := H.out.2.2.1.size
      have HVV := H.out.2.1
      clear c0 c2 c3 l1 l2 e0 e1 e2 e3 hl1 hl2
      cases HVV with
      | dot b t k d hb hv =>
        have d0 : wr.cell? ⟨b, 0, none⟩ = some t := by rw [hb.cell]; rfl
        have d1 : wr.cell? ⟨b, 1, none⟩ = some (.int .i32 0) := by rw [hb.cell]; rfl
        have lb := hb.lt
        have HD := Lib.hid hv
        have HN1 := Lib.hid (atNe hb H.out.1 (by decide))
        clear hb
        rcases hv.form with rfl | ⟨T3, b3, rfl⟩
        all_goals
          clear hv
          go_wp2_with fail
          go_roundg (d)
          case measure => omega
          case rel => exact ⟨_, _, Lib.hid ⟨(H.out.1.set 0 _).set 1 (.int .i32 0), HD.out.far154 _ _ H.out.1, (H.out.2.2.1.setCell (by simp) _).setCell (by simp) _, (H.out.2.2.2.far (by simp) _).far (by simp) _⟩⟩
      | no =>
        have HG2 := Lib.hid (show wr.cell? ⟨0, 0, none⟩ = some (.int .u32 4294967295) ∧ wr.cell? ⟨0, 1, none⟩ = some (.int .u32 4294967295) from ⟨kept H.out.2.2.1 HG.out.1, kept H.out.2.2.1 HG.out.2⟩)
        have g0 := HG2.out.1
        have g1 := HG2.out.2
        have lg0 : 0 < wr.heap.size := by omega
        have HB := Lib.hid H.out.2.2.1
        go_wp2_with fail
        go_ret
        exact ⟨rfl, HB.out.alloc hw0 _⟩
  · go_enter Tryd.func19, Tryd.ntmps19
    go_wp2_with fail
    go_loopg [9, 10] (d0) (fun d s9 s10 wr => CHrel vN 5 w (.iface T2 (.pointer (some ⟨b2, 0, none⟩))) (.int .i32 0) bl lo d wr)
    case atStart => exact ⟨_, _, Lib.hid ⟨at2 _ _ _ _, HV.out.keep (KX.below (by repeat (first | with_reducible exact Below.refl _ _ | (with_reducible refine Below.drew ?_) | (with_reducible refine Below.alloc ?_ (by simp; try omega) _) | (with_reducible refine Below.setCell ?_ (by simp; try omega) _)))), (by repeat (first | with_reducible exact Below.refl _ _ | (with_reducible refine Below.drew ?_) | (with_reducible refine Below.alloc ?_ (by simp; try omega) _) | (with_reducible refine Below.setCell ?_ (by simp; try omega) _))), (At.new w 200 _).alloc _⟩⟩
    case round =>
      obtain ⟨val, l, H⟩ := hrel
      have q0 : wr.cell? ⟨w.heap.size + 1, 0, none⟩ = some val := by rw [H.out.1.cell]; rfl
      have q1 : wr.cell? ⟨w.heap.size + 1, 1, none⟩ = some (.int .i32 l) := by rw [H.out.1.cell]; rfl
      have qf0 := H.out.1.frozen 0
      have qf1 := H.out.1.frozen 1
      have lq := H.out.1.lt
      have hw0 := H.out.2.2.1.size
      have HVV := H.out.2.1
      clear c0 c2 c3 l1 l2 e0 e1 e2 e3 hl1 hl2
      cases HVV with
      | dot b t k d hb hv =>
        have d0 : wr.cell? ⟨b, 0, none⟩ = some t := by rw [hb.cell]; rfl
        have d1 : wr.cell? ⟨b, 1, none⟩ = some (.int .i32 0) := by rw [hb.cell]; rfl
        have lb := hb.lt
        have HD := Lib.hid hv
        have HN1 := Lib.hid (atNe hb H.out.1 (by decide))
        clear hb
        rcases hv.form with rfl | ⟨T3, b3, rfl⟩
        all_goals
          clear hv
          go_wp2_with fail
          go_roundg (d)
          case measure => omega
          case rel => exact ⟨_, _, Lib.hid ⟨(H.out.1.set 0 _).set 1 (.int .i32 0), HD.out.far154 _ _ H.out.1, (H.out.2.2.1.setCell (by simp) _).setCell (by simp) _, (H.out.2.2.2.far (by simp) _).far (by simp) _⟩⟩
      | no =>
        have HG2 := Lib.hid (show wr.cell? ⟨0, 0, none⟩ = some (.int .u32 4294967295) ∧ wr.cell? ⟨0, 1, none⟩ = some (.int .u32 4294967295) from ⟨kept H.out.2.2.1 HG.out.1, kept H.out.2.2.1 HG.out.2⟩)
        have g0 := HG2.out.1
        have g1 := HG2.out.2
        have lg0 : 0 < wr.heap.size := by omega
        have HB := Lib.hid H.out.2.2.1
        go_wp2_with fail
        go_ret
        exact ⟨rfl, HB.out.alloc hw0 _⟩
end UX
end Go.Proofs.YthgcchgpplblbaaDoor
