/- Proved here: the walk of the law FnObjectSpreadMatchesRightToLeftChain. Conditions as stated. -/
import Derived.Test.YtjlmaingeobgeaaDoorOSG
import Derived.WalkKit
import Derived.WalkSpells
import Derived.WalkLawsBesides
import Derived.Lib.Hide
import Derived.Lib.SliceRun
import Derived.Deep.RegionWith
import Derived.OwnWalk
import Derived.Laws.OwnMore
import Derived.BigRegion
import Derived.Deep.RegionHeld3
import Derived.Carry
namespace Go.Proofs.YtjlmaingeobgeaaDoor
open Go.RowKit
set_option linter.unusedSimpArgs false
set_option linter.unusedVariables false

def CLP (N : Nat) (sp : Nat → Bool) (w : World) (e : Ending) (w' : World) : Prop := ∃ (sb : Nat) (a : Option Addr), e = .returned (.slice a N N) ∧ (0 < N → a = some ⟨sb, 0, none⟩) ∧ (∀ j, j < N → w'.cell? ⟨sb, j, none⟩ = some (.bool (sp j))) ∧ Below w.heap.size w w'
theorem cloneAny (a : Option Addr) (len cap : Nat) (zs : List Bool) (w : World) (h : IsBools w a len cap zs) (hlen : len ≤ 1048576) : Calls Tryd.prog 27 #[.slice a len cap] w (CLP len (fun j => zs.getD j false) w) := by
  rcases h with ⟨rfl, rfl, rfl, rfl⟩ | ⟨x, rfl, h1, h2, h3, h4⟩
  · refine (cloneB_nil w).mono ?_
    rintro e w' ⟨rfl, rfl⟩
    exact ⟨0, none, rfl, fun h => absurd h (by omega), fun j hj => absurd hj (by omega), Below.refl _ _⟩
  · refine (cloneB_some x len cap zs w (by omega) h4 hlen).mono ?_
    rintro e w' ⟨cs, rfl, hat, hsz, hcs, hb⟩
    exact ⟨w.heap.size, _, rfl, fun _ => rfl, fun j hj => by rw [hat.cell]; exact hcs j hj, hb⟩
theorem OB.far {w w' : World} {D : Nat → Prop} {eo : Nat} {sl : Bool} {q : Nat → Nat} {lo n : Nat} (h : OB w D eo sl q lo n) (hk : ∀ k, D k → k < w.heap.size → w'.heap[k]? = w.heap[k]?) : OB w' D eo sl q lo n := by
  obtain ⟨h0, v, c1, c2, c4, h1, h2, h3⟩ := h
  exact ⟨h0, v, c1, c2, c4, (hk eo h0 h1.lt).trans h1, ownKeep0 h2 (fun g cs' hg hat => hk g (h3 g hg) hat.lt), h3⟩
theorem HC.far {w w' : World} {D : Nat → Prop} {e0 r : Nat} {d0 : Value} {x0 : Int} {d1 : Value} {x1 : Int} {i ab : Nat} (h : HC w e0 r d0 x0 d1 x1 i ab) (h2 : D e0 ∧ D i ∧ D ab) (hk : ∀ k, D k → k < w.heap.size → w'.heap[k]? = w.heap[k]?) : HC w' e0 r d0 x0 d1 x1 i ab := by
  obtain ⟨⟨l0, h3⟩, h4, h5⟩ := h
  exact ⟨⟨l0, (hk _ h2.1 h3.lt).trans h3⟩, (hk _ h2.2.1 h4.lt).trans h4, (hk _ h2.2.2 h5.lt).trans h5⟩
theorem CH.far {w w' : World} {D : Nat → Prop} {sl : Bool} {q : Nat → Nat} {sp : Nat → Bool} {l : Int} {T : TypeId} {e n : Nat} (h : CH w D sl q sp l T e n) (hk : ∀ k, D k → k < w.heap.size → w'.heap[k]? = w.heap[k]?) : CH w' D sl q sp l T e n := by
  induction h with
  | base e n h1 h2 => exact .base e n h1 (h2.far hk)
  | spread e0 n T e' i ab h1 h2 h3 h4 ih => exact .spread e0 n T e' i ab h1 h2 (h3.far h2 hk) ih
  | props e0 m n T e' eo i ab h0 h1 h1' h2 h3 h5 h4 ih => exact .props e0 m n T e' eo i ab h0 h1 h1' h2 (h3.far h2 hk) (h5.far hk) ih
def anyB (sp : Nat → Bool) : Nat → Bool
  | 0 => false
  | k + 1 => anyB sp k || sp k
theorem anyB_false {sp : Nat → Bool} {N : Nat} (h : ∀ j, j < N → sp j = false) : anyB sp N = false := by
  induction N with
  | zero => rfl
  | succ n ih => rw [anyB, ih (fun j hj => h j (by omega)), h n (by omega)]; rfl
theorem anyB_true {sp : Nat → Bool} {N : Nat} (h : ∃ j, j < N ∧ sp j = true) : anyB sp N = true := by
  obtain ⟨j, hj, h⟩ := h
  induction N with
  | zero => omega
  | succ n ih =>
    rw [anyB]
    by_cases e : j = n
    · rw [← e, h]; simp
    · rw [ih (by omega)]; rfl
/-- The loop that looks for a spread. -/
def AL (N : Nat) (sp : Nat → Bool) (f i : Value) : Prop := ∃ (k : Nat) (b : Bool), i = .int .i64 k ∧ f = .bool b ∧ Hid (b = anyB sp k) ∧ k ≤ N
theorem INP.below {w w' : World} {b s m eo ob N : Nat} {sl : Bool} {q : Nat → Nat} {sp : Nat → Bool} (h : INP w b s m eo ob N sl q sp) (hb : Below w.heap.size w w') : INP w' b s m eo ob N sl q sp := by
  obtain ⟨cs, h1, h2⟩ := h.row
  exact ⟨h.pr.below hb, h.obj.below hb h.obj.lt, cs, h1.below hb h1.lt, h2⟩

set_option maxRecDepth 100000 in
theorem zId0 (b s m eo ob N : Nat) (sl : Bool) (q : Nat → Nat) (sp : Nat → Bool) (l : Int) (w : World) (hN : N ≤ 65536) (h23 : w.cell? ⟨b, 23, none⟩ = some (.int .u64 0)) (h : INP w b s m eo ob N sl q sp) :
    Calls Tryd.prog 31 #[.pointer (some ⟨b, 0, none⟩), .agg #[.int .i32 l], .pointer (some ⟨eo, 0, none⟩)] w (fun e w' => e = .returned (.agg #[.iface 59 (.pointer (some ⟨eo, 0, none⟩)), .int .i32 l]) ∧ Below w.heap.size w w') := by
  go_enter Tryd.func31, Tryd.ntmps31
  go_wp2_with fail
  obtain ⟨V, hV⟩ : ∃ V, V = (w.alloc (.cells #[.int .i32 l] 33)).alloc (.cells #[.nilIface, .int .i32 0] 35) := ⟨_, rfl⟩
  have hWV : Below w.heap.size w V := by rw [hV]; exact ((Below.refl _ _).alloc (Nat.le_refl _) _).alloc (by simp) _
  have A6 : At V (w.heap.size + 1) 35 #[.nilIface, .int .i32 0] := by
    rw [hV]
    have := At.new (w.alloc (.cells #[.int .i32 l] 33)) 35 #[.nilIface, .int .i32 0]
    rwa [show (w.alloc (.cells #[.int .i32 l] 33)).heap.size = w.heap.size + 1 from by simp] at this
  rw [← hV]
  have HWV := Lib.hid hWV
  have H6 := Lib.hid A6
  have z2 : w.heap.size + 1 < V.heap.size := A6.lt
  clear hV A6
  refine (lsId0 b s m eo ob N sl q sp l V hN (kept hWV h23) (h.below hWV)).mono ?_
  rintro e w1 ⟨rfl, hb⟩
  have B6 := H6.out.below hb H6.out.lt
  have c60 : w1.cell? ⟨w.heap.size + 1, 0, none⟩ = some .nilIface := by rw [B6.cell]; rfl
  have c61 : w1.cell? ⟨w.heap.size + 1, 1, none⟩ = some (.int .i32 0) := by rw [B6.cell]; rfl
  have f60 := B6.frozen 0
  have f61 := B6.frozen 1
  have l6 := B6.lt
  have HB := Lib.hid (hWV.trans (hb.mono hWV.size))
  clear B6 hb hWV
  go_wp2_with fail
  refine bodyPost_ret (v := .agg #[.iface 59 (.pointer (some ⟨eo, 0, none⟩)), .int .i32 l]) (by simp [results, Tryd.results31, go_sem, *]) rfl ⟨rfl, ?_⟩
  exact (HB.out.setCell (by simp) _).setCell (by simp) _

set_option maxRecDepth 100000 in
theorem zId1 (b s m eo ob N : Nat) (sl : Bool) (q : Nat → Nat) (sp : Nat → Bool) (l : Int) (w : World) (hN : N ≤ 65536) (h23 : w.cell? ⟨b, 23, none⟩ = some (.int .u64 35184372088832)) (h : INP w b s m eo ob N sl q sp) (hno : ∀ j, j < N → sp j = false) :
    Calls Tryd.prog 31 #[.pointer (some ⟨b, 0, none⟩), .agg #[.int .i32 l], .pointer (some ⟨eo, 0, none⟩)] w (fun e w' => e = .returned (.agg #[.iface 59 (.pointer (some ⟨eo, 0, none⟩)), .int .i32 l]) ∧ Below w.heap.size w w') := by
  go_enter Tryd.func31, Tryd.ntmps31
  go_wp2_with fail
  obtain ⟨V, hV⟩ : ∃ V, V = (w.alloc (.cells #[.int .i32 l] 33)).alloc (.cells #[.nilIface, .int .i32 0] 35) := ⟨_, rfl⟩
  have hWV : Below w.heap.size w V := by rw [hV]; exact ((Below.refl _ _).alloc (Nat.le_refl _) _).alloc (by simp) _
  have A6 : At V (w.heap.size + 1) 35 #[.nilIface, .int .i32 0] := by
    rw [hV]
    have := At.new (w.alloc (.cells #[.int .i32 l] 33)) 35 #[.nilIface, .int .i32 0]
    rwa [show (w.alloc (.cells #[.int .i32 l] 33)).heap.size = w.heap.size + 1 from by simp] at this
  rw [← hV]
  have HWV := Lib.hid hWV
  have H6 := Lib.hid A6
  have z2 : w.heap.size + 1 < V.heap.size := A6.lt
  clear hV A6
  refine (lsId1 b s m eo ob N sl q sp l V hN (kept hWV h23) (h.below hWV) hno).mono ?_
  rintro e w1 ⟨rfl, hb⟩
  have B6 := H6.out.below hb H6.out.lt
  have c60 : w1.cell? ⟨w.heap.size + 1, 0, none⟩ = some .nilIface := by rw [B6.cell]; rfl
  have c61 : w1.cell? ⟨w.heap.size + 1, 1, none⟩ = some (.int .i32 0) := by rw [B6.cell]; rfl
  have f60 := B6.frozen 0
  have f61 := B6.frozen 1
  have l6 := B6.lt
  have HB := Lib.hid (hWV.trans (hb.mono hWV.size))
  clear B6 hb hWV
  go_wp2_with fail
  refine bodyPost_ret (v := .agg #[.iface 59 (.pointer (some ⟨eo, 0, none⟩)), .int .i32 l]) (by simp [results, Tryd.results31, go_sem, *]) rfl ⟨rfl, ?_⟩
  exact (HB.out.setCell (by simp) _).setCell (by simp) _

set_option maxRecDepth 100000 in
theorem zGo (b s m eo ob N : Nat) (sl : Bool) (q : Nat → Nat) (sp : Nat → Bool) (l : Int) (w : World) (hN : N ≤ 65536) (h23 : w.cell? ⟨b, 23, none⟩ = some (.int .u64 35184372088832)) (h : INP w b s m eo ob N sl q sp) (hsp : ∃ j, j < N ∧ sp j = true) :
    Calls Tryd.prog 31 #[.pointer (some ⟨b, 0, none⟩), .agg #[.int .i32 l], .pointer (some ⟨eo, 0, none⟩)] w (LSP N sl q sp l s w) := by
  go_enter Tryd.func31, Tryd.ntmps31
  go_wp2_with fail
  obtain ⟨V, hV⟩ : ∃ V, V = (w.alloc (.cells #[.int .i32 l] 33)).alloc (.cells #[.nilIface, .int .i32 0] 35) := ⟨_, rfl⟩
  have hWV : Below w.heap.size w V := by rw [hV]; exact ((Below.refl _ _).alloc (Nat.le_refl _) _).alloc (by simp) _
  have A6 : At V (w.heap.size + 1) 35 #[.nilIface, .int .i32 0] := by
    rw [hV]
    have := At.new (w.alloc (.cells #[.int .i32 l] 33)) 35 #[.nilIface, .int .i32 0]
    rwa [show (w.alloc (.cells #[.int .i32 l] 33)).heap.size = w.heap.size + 1 from by simp] at this
  rw [← hV]
  have HWV := Lib.hid hWV
  have H6 := Lib.hid A6
  have z2 : w.heap.size + 1 < V.heap.size := A6.lt
  clear hV A6
  refine (lsGo b s m eo ob N sl q sp l V hN (kept hWV h23) (h.below hWV) hsp).mono ?_
  rintro e w1 ⟨T, e0, D, rfl, hch, hfr, hD⟩
  have hs6 : w.heap.size + 1 ≠ s := by have := h.pr.lt.2.2; omega
  have B6 := H6.out.fr hfr hs6
  have c60 : w1.cell? ⟨w.heap.size + 1, 0, none⟩ = some .nilIface := by rw [B6.cell]; rfl
  have c61 : w1.cell? ⟨w.heap.size + 1, 1, none⟩ = some (.int .i32 0) := by rw [B6.cell]; rfl
  have f60 := B6.frozen 0
  have f61 := B6.frozen 1
  have l6 := B6.lt
  have HF := Lib.hid (show LSP N sl q sp l s w (.returned (.agg #[.iface T (.pointer (some ⟨e0, 0, none⟩)), .int .i32 l])) ((w1.setCell ⟨w.heap.size + 1, 0, none⟩ (.iface T (.pointer (some ⟨e0, 0, none⟩)))).setCell ⟨w.heap.size + 1, 1, none⟩ (.int .i32 l)) from
    ⟨T, e0, D, rfl, hch.far (fun k hk _ => by rw [Below.heap_setCell _ _ _ k (by have := hD k hk; simp; omega), Below.heap_setCell _ _ _ k (by have := hD k hk; simp; omega)]), (((Fr.of_below hWV).trans hfr).set (by omega) 0 _).set (by omega) 1 _, fun x hx => by have := hD x hx; omega⟩)
  clear B6 hch hfr hD hWV
  go_wp2_with fail
  exact bodyPost_ret (v := .agg #[.iface T (.pointer (some ⟨e0, 0, none⟩)), .int .i32 l]) (by simp [results, Tryd.results31, go_sem, *]) rfl HF.out
namespace fnObjectSpreadMatchesRightToLeftChain

set_option maxRecDepth 100000 in
set_option maxHeartbeats 8000000 in
theorem w0 (a0 : Int) (a2 : Option Addr) (N cap2 : Nat) (z2 : List Bool) (a3 : Bool) (w : World) (w0 : (Lit.int .i32 a0).wf = true) (w2 : IsBools w a2 N cap2 z2) (hN : N ≤ 65536) :
    Calls Tryd.prog 5 #[.int .i32 a0, .bool false, .slice a2 N cap2, .bool a3] w fun e w' => e = .returned (.bool true) ∧ Below w.heap.size w w' := by
  have hN1 : (N : Int) ≤ 65536 := by omega
  have hN0 : (0 : Int) ≤ (N : Int) := Int.natCast_nonneg _
  obtain ⟨sp, hsp⟩ : ∃ sp : Nat → Bool, sp = fun j => z2.getD j false := ⟨_, rfl⟩
  have HSP := Lib.hid hsp
  have HBO := Lib.hid w2
  clear hsp w0 w2
  go_enter Tryd.func5, Tryd.ntmps5
  go_wp2_with fail
  refine (zzB a0 false a2 N cap2 a3 w (by omega)).mono ?_
  rintro e w' ⟨zb, rfl, rfl⟩
  cases zb
  · go_wp2_with fail
    go_ret
    exact ⟨rfl, Below.refl _ _⟩
  go_wp2_with fail
  refine (cloneAny a2 N cap2 z2 w HBO.out (by omega)).mono ?_
  rintro e w1 ⟨sb, ac, rfl, hac, hcs, hb1⟩
  rw [← HSP.out] at hcs
  have HSA := Lib.hid hac
  have HC1 := Lib.hid hcs
  have HB1 := Lib.hid hb1
  clear hac hcs hb1
  go_wp2_with fail
  refine (buildO N sb ac N sp a3 w1 hN HSA.out HC1.out).mono ?_
  rintro e w2 ⟨eo, q, rfl, heo, hobj, hfil⟩
  have HB2 := Lib.hid (HB1.out.trans (hfil.low.mono HB1.out.size))
  have HOBJ := Lib.hid hobj
  have HFIL := Lib.hid hfil
  obtain ⟨nb, hnb⟩ : ∃ nb, nb = w1.heap.size := ⟨_, rfl⟩
  rw [← hnb]
  have HNB := Lib.hid hnb
  clear heo hobj hfil hnb
  go_wp2_with fail
  refine (fMask false w2).mono ?_
  rintro e w' ⟨rfl, rfl⟩
  simp only [if_true, Bool.false_eq_true, if_false]
  go_wp2_with fail
  refine (newP 0 (by simp) w2).mono ?_
  rintro e w3 ⟨b, s, m, rfl, hpr, h23, hb3, hs⟩
  have HI := Lib.hid (show INP w3 b s m eo (w1.heap.size + 1) N a3 q sp from by
    obtain ⟨cs, h1, _, h2⟩ := HFIL.out.prps
    exact ⟨hpr, HOBJ.out.below hb3 HOBJ.out.lt, cs, h1.below hb3 h1.lt, h2⟩)
  have H23 := Lib.hid h23
  have HB3 := Lib.hid (HB2.out.trans (hb3.mono HB2.out.size))
  have HB23 := Lib.hid hb3
  have HSS := Lib.hid hs
  have HPR := Lib.hid hpr
  clear hpr h23 hb3 hs
  go_wp2_with fail
  refine (zId0 b s m eo (w1.heap.size + 1) N a3 q sp a0 w3 hN H23.out HI.out).mono ?_
  rintro e w4 ⟨rfl, hb4⟩
  obtain ⟨W, hW⟩ : ∃ W, W = w4.alloc (.cells #[.iface 59 (.pointer (some ⟨eo, 0, none⟩)), .int .i32 a0] 35) := ⟨_, rfl⟩
  obtain ⟨ow, how⟩ : ∃ ow, ow = w4.heap.size := ⟨_, rfl⟩
  obtain ⟨ob, hob⟩ : ∃ ob, ob = w1.heap.size + 1 := ⟨_, rfl⟩
  have h4W : Below w4.heap.size w4 W := by rw [hW]; exact (Below.refl _ _).alloc (Nat.le_refl _) _
  have h3W : Below w3.heap.size w3 W := hb4.trans (h4W.mono hb4.size)
  have AO : At W ow 35 #[.iface 59 (.pointer (some ⟨eo, 0, none⟩)), .int .i32 a0] := by rw [hW, how]; exact At.new _ _ _
  have AE := HI.out.obj.below h3W HI.out.obj.lt
  rw [← hob] at AE
  have o0 : W.cell? ⟨ow, 0, none⟩ = some (.iface 59 (.pointer (some ⟨eo, 0, none⟩))) := by rw [AO.cell]; rfl
  have o1 : W.cell? ⟨ow, 1, none⟩ = some (.int .i32 a0) := by rw [AO.cell]; rfl
  have e0 : W.cell? ⟨eo, 0, none⟩ = some (.slice (some ⟨ob, 0, none⟩) N N) := by rw [AE.cell]; rfl
  have lo := AO.lt
  have le := AE.lt
  have HBW := Lib.hid (HB3.out.trans (h3W.mono HB3.out.size))
  have HSB := Lib.hid (show ∀ j, j < N → W.cell? ⟨sb, j, none⟩ = some (.bool (sp j)) from fun j hj => kept h3W (kept HB23.out (kept HFIL.out.low (HC1.out j hj))))
  have HOW := Lib.hid how
  have HW := Lib.hid hW
  clear AO AE h3W h4W hb4 how hW hob
  go_wp2_with fail
  rw [← HW.out, ← HOW.out]
  go_loop [13, 14] (fun f i => AL N sp f i) (fun _ i => N - (intOf i).toNat)
  case atStart => exact ⟨0, false, rfl, rfl, Lib.hid rfl, Nat.zero_le _⟩
  case round =>
    obtain ⟨k, fb, rfl, rfl, HFB, hk⟩ := hrel
    by_cases hlt : k < N
    · have cs := HSB.out k hlt
      have lsb := World.block_lt_of_cell? _ _ cs
      obtain rfl := HSA.out (by omega)
      obtain ⟨y, hy⟩ : ∃ y, y = sp k := ⟨_, rfl⟩
      rw [← hy] at cs
      have HY := Lib.hid hy
      clear hy
      cases y
      · go_wp2_with fail
        go_round
        case rel => exact ⟨k + 1, fb, by go_num, rfl, Lib.hid (by rw [anyB, ← HFB.out, ← HY.out]; simp), by omega⟩
        case measure => simp [intOf]; omega
      · go_wp2_with fail
        go_round
        case rel => exact ⟨k + 1, true, by go_num, rfl, Lib.hid (by rw [anyB, ← HY.out]; simp), by omega⟩
        case measure => simp [intOf]; omega
    · obtain rfl : k = N := by omega
      have hfb := HFB.out
      clear hfb
      go_wp2_with fail
      refine (asObj eo a0 _).mono ?_
      rintro e Y ⟨rfl, hbV⟩
      have y0 := kept hbV o0
      have y1 := kept hbV o1
      have ye := kept hbV e0
      have lyo := World.block_lt_of_cell? _ _ y0
      have lye := World.block_lt_of_cell? _ _ ye
      have HBY := Lib.hid (HBW.out.trans (hbV.mono HBW.out.size))
      clear hbV
      go_wp2_with fail
      go_ret
      exact ⟨rfl, HBY.out⟩

set_option maxRecDepth 100000 in
set_option maxHeartbeats 8000000 in
theorem w1n (a0 : Int) (a2 : Option Addr) (N cap2 : Nat) (z2 : List Bool) (a3 : Bool) (w : World) (w0 : (Lit.int .i32 a0).wf = true) (w2 : IsBools w a2 N cap2 z2) (hN : N ≤ 65536) (hno : ∀ j, j < N → z2.getD j false = false) :
    Calls Tryd.prog 5 #[.int .i32 a0, .bool true, .slice a2 N cap2, .bool a3] w fun e w' => e = .returned (.bool true) ∧ Below w.heap.size w w' := by
  have hN1 : (N : Int) ≤ 65536 := by omega
  have hN0 : (0 : Int) ≤ (N : Int) := Int.natCast_nonneg _
  obtain ⟨sp, hsp⟩ : ∃ sp : Nat → Bool, sp = fun j => z2.getD j false := ⟨_, rfl⟩
  have HSP := Lib.hid hsp
  have HBO := Lib.hid w2
  clear hsp w0 w2
  have HNO := Lib.hid (show ∀ j, j < N → sp j = false from by rw [HSP.out]; exact hno)
  clear hno
  go_enter Tryd.func5, Tryd.ntmps5
  go_wp2_with fail
  refine (zzB a0 true a2 N cap2 a3 w (by omega)).mono ?_
  rintro e w' ⟨zb, rfl, rfl⟩
  cases zb
  · go_wp2_with fail
    go_ret
    exact ⟨rfl, Below.refl _ _⟩
  go_wp2_with fail
  refine (cloneAny a2 N cap2 z2 w HBO.out (by omega)).mono ?_
  rintro e w1 ⟨sb, ac, rfl, hac, hcs, hb1⟩
  rw [← HSP.out] at hcs
  have HSA := Lib.hid hac
  have HC1 := Lib.hid hcs
  have HB1 := Lib.hid hb1
  clear hac hcs hb1
  go_wp2_with fail
  refine (buildO N sb ac N sp a3 w1 hN HSA.out HC1.out).mono ?_
  rintro e w2 ⟨eo, q, rfl, heo, hobj, hfil⟩
  have HB2 := Lib.hid (HB1.out.trans (hfil.low.mono HB1.out.size))
  have HOBJ := Lib.hid hobj
  have HFIL := Lib.hid hfil
  obtain ⟨nb, hnb⟩ : ∃ nb, nb = w1.heap.size := ⟨_, rfl⟩
  rw [← hnb]
  have HNB := Lib.hid hnb
  clear heo hobj hfil hnb
  go_wp2_with fail
  refine (fMask true w2).mono ?_
  rintro e w' ⟨rfl, rfl⟩
  simp only [if_true, Bool.false_eq_true, if_false]
  go_wp2_with fail
  refine (newP 35184372088832 (by simp) w2).mono ?_
  rintro e w3 ⟨b, s, m, rfl, hpr, h23, hb3, hs⟩
  have HI := Lib.hid (show INP w3 b s m eo (w1.heap.size + 1) N a3 q sp from by
    obtain ⟨cs, h1, _, h2⟩ := HFIL.out.prps
    exact ⟨hpr, HOBJ.out.below hb3 HOBJ.out.lt, cs, h1.below hb3 h1.lt, h2⟩)
  have H23 := Lib.hid h23
  have HB3 := Lib.hid (HB2.out.trans (hb3.mono HB2.out.size))
  have HB23 := Lib.hid hb3
  have HSS := Lib.hid hs
  have HPR := Lib.hid hpr
  clear hpr h23 hb3 hs
  go_wp2_with fail
  refine (zId1 b s m eo (w1.heap.size + 1) N a3 q sp a0 w3 hN H23.out HI.out HNO.out).mono ?_
  rintro e w4 ⟨rfl, hb4⟩
  obtain ⟨W, hW⟩ : ∃ W, W = w4.alloc (.cells #[.iface 59 (.pointer (some ⟨eo, 0, none⟩)), .int .i32 a0] 35) := ⟨_, rfl⟩
  obtain ⟨ow, how⟩ : ∃ ow, ow = w4.heap.size := ⟨_, rfl⟩
  obtain ⟨ob, hob⟩ : ∃ ob, ob = w1.heap.size + 1 := ⟨_, rfl⟩
  have h4W : Below w4.heap.size w4 W := by rw [hW]; exact (Below.refl _ _).alloc (Nat.le_refl _) _
  have h3W : Below w3.heap.size w3 W := hb4.trans (h4W.mono hb4.size)
  have AO : At W ow 35 #[.iface 59 (.pointer (some ⟨eo, 0, none⟩)), .int .i32 a0] := by rw [hW, how]; exact At.new _ _ _
  have AE := HI.out.obj.below h3W HI.out.obj.lt
  rw [← hob] at AE
  have o0 : W.cell? ⟨ow, 0, none⟩ = some (.iface 59 (.pointer (some ⟨eo, 0, none⟩))) := by rw [AO.cell]; rfl
  have o1 : W.cell? ⟨ow, 1, none⟩ = some (.int .i32 a0) := by rw [AO.cell]; rfl
  have e0 : W.cell? ⟨eo, 0, none⟩ = some (.slice (some ⟨ob, 0, none⟩) N N) := by rw [AE.cell]; rfl
  have lo := AO.lt
  have le := AE.lt
  have HBW := Lib.hid (HB3.out.trans (h3W.mono HB3.out.size))
  have HSB := Lib.hid (show ∀ j, j < N → W.cell? ⟨sb, j, none⟩ = some (.bool (sp j)) from fun j hj => kept h3W (kept HB23.out (kept HFIL.out.low (HC1.out j hj))))
  have HOW := Lib.hid how
  have HW := Lib.hid hW
  clear AO AE h3W h4W hb4 how hW hob
  go_wp2_with fail
  rw [← HW.out, ← HOW.out]
  go_loop [13, 14] (fun f i => AL N sp f i) (fun _ i => N - (intOf i).toNat)
  case atStart => exact ⟨0, false, rfl, rfl, Lib.hid rfl, Nat.zero_le _⟩
  case round =>
    obtain ⟨k, fb, rfl, rfl, HFB, hk⟩ := hrel
    by_cases hlt : k < N
    · have cs := HSB.out k hlt
      have lsb := World.block_lt_of_cell? _ _ cs
      obtain rfl := HSA.out (by omega)
      obtain ⟨y, hy⟩ : ∃ y, y = sp k := ⟨_, rfl⟩
      rw [← hy] at cs
      have HY := Lib.hid hy
      clear hy
      cases y
      · go_wp2_with fail
        go_round
        case rel => exact ⟨k + 1, fb, by go_num, rfl, Lib.hid (by rw [anyB, ← HFB.out, ← HY.out]; simp), by omega⟩
        case measure => simp [intOf]; omega
      · go_wp2_with fail
        go_round
        case rel => exact ⟨k + 1, true, by go_num, rfl, Lib.hid (by rw [anyB, ← HY.out]; simp), by omega⟩
        case measure => simp [intOf]; omega
    · obtain rfl : k = N := by omega
      have hfb := HFB.out
      rw [anyB_false HNO.out] at hfb
      subst hfb
      go_wp2_with fail
      refine (asObj eo a0 _).mono ?_
      rintro e Y ⟨rfl, hbV⟩
      have y0 := kept hbV o0
      have y1 := kept hbV o1
      have ye := kept hbV e0
      have lyo := World.block_lt_of_cell? _ _ y0
      have lye := World.block_lt_of_cell? _ _ ye
      have HBY := Lib.hid (HBW.out.trans (hbV.mono HBW.out.size))
      clear hbV
      go_wp2_with fail
      go_ret
      exact ⟨rfl, HBY.out⟩

set_option maxRecDepth 100000 in
set_option maxHeartbeats 8000000 in
theorem w1 (a0 : Int) (a2 : Option Addr) (N cap2 : Nat) (z2 : List Bool) (a3 : Bool) (w : World) (w0 : (Lit.int .i32 a0).wf = true) (w2 : IsBools w a2 N cap2 z2) (hN : N ≤ 65536) (hany : ∃ j, j < N ∧ z2.getD j false = true) :
    Calls Tryd.prog 5 #[.int .i32 a0, .bool true, .slice a2 N cap2, .bool a3] w fun e w' => e = .returned (.bool true) ∧ Below w.heap.size w w' := by
  have hN1 : (N : Int) ≤ 65536 := by omega
  have hN0 : (0 : Int) ≤ (N : Int) := Int.natCast_nonneg _
  obtain ⟨sp, hsp⟩ : ∃ sp : Nat → Bool, sp = fun j => z2.getD j false := ⟨_, rfl⟩
  have HSP := Lib.hid hsp
  have HBO := Lib.hid w2
  clear hsp w0 w2
  have HANY := Lib.hid (show ∃ j, j < N ∧ sp j = true from by rw [HSP.out]; exact hany)
  clear hany
  go_enter Tryd.func5, Tryd.ntmps5
  go_wp2_with fail
  refine (zzB a0 true a2 N cap2 a3 w (by omega)).mono ?_
  rintro e w' ⟨zb, rfl, rfl⟩
  cases zb
  · go_wp2_with fail
    go_ret
    exact ⟨rfl, Below.refl _ _⟩
  go_wp2_with fail
  refine (cloneAny a2 N cap2 z2 w HBO.out (by omega)).mono ?_
  rintro e w1 ⟨sb, ac, rfl, hac, hcs, hb1⟩
  rw [← HSP.out] at hcs
  have HSA := Lib.hid hac
  have HC1 := Lib.hid hcs
  have HB1 := Lib.hid hb1
  clear hac hcs hb1
  go_wp2_with fail
  refine (buildO N sb ac N sp a3 w1 hN HSA.out HC1.out).mono ?_
  rintro e w2 ⟨eo, q, rfl, heo, hobj, hfil⟩
  have HB2 := Lib.hid (HB1.out.trans (hfil.low.mono HB1.out.size))
  have HOBJ := Lib.hid hobj
  have HFIL := Lib.hid hfil
  obtain ⟨nb, hnb⟩ : ∃ nb, nb = w1.heap.size := ⟨_, rfl⟩
  rw [← hnb]
  have HNB := Lib.hid hnb
  clear heo hobj hfil hnb
  go_wp2_with fail
  refine (fMask true w2).mono ?_
  rintro e w' ⟨rfl, rfl⟩
  simp only [if_true, Bool.false_eq_true, if_false]
  go_wp2_with fail
  refine (newP 35184372088832 (by simp) w2).mono ?_
  rintro e w3 ⟨b, s, m, rfl, hpr, h23, hb3, hs⟩
  have HI := Lib.hid (show INP w3 b s m eo (w1.heap.size + 1) N a3 q sp from by
    obtain ⟨cs, h1, _, h2⟩ := HFIL.out.prps
    exact ⟨hpr, HOBJ.out.below hb3 HOBJ.out.lt, cs, h1.below hb3 h1.lt, h2⟩)
  have H23 := Lib.hid h23
  have HB3 := Lib.hid (HB2.out.trans (hb3.mono HB2.out.size))
  have HB23 := Lib.hid hb3
  have HSS := Lib.hid hs
  have HPR := Lib.hid hpr
  clear hpr h23 hb3 hs
  go_wp2_with fail
  refine (zGo b s m eo (w1.heap.size + 1) N a3 q sp a0 w3 hN H23.out HI.out HANY.out).mono ?_
  rintro e w4 ⟨T, e0, D, rfl, hch, hfr, hD⟩
  obtain ⟨W, hW⟩ : ∃ W, W = w4.alloc (.cells #[.iface T (.pointer (some ⟨e0, 0, none⟩)), .int .i32 a0] 35) := ⟨_, rfl⟩
  obtain ⟨ow, how⟩ : ∃ ow, ow = w4.heap.size := ⟨_, rfl⟩
  have h4W : Below w4.heap.size w4 W := by rw [hW]; exact (Below.refl _ _).alloc (Nat.le_refl _) _
  have f3W : Fr s w3 W := hfr.trans (Fr.of_below h4W)
  have AO : At W ow 35 #[.iface T (.pointer (some ⟨e0, 0, none⟩)), .int .i32 a0] := by rw [hW, how]; exact At.new _ _ _
  have o0 : W.cell? ⟨ow, 0, none⟩ = some (.iface T (.pointer (some ⟨e0, 0, none⟩))) := by rw [AO.cell]; rfl
  have o1 : W.cell? ⟨ow, 1, none⟩ = some (.int .i32 a0) := by rw [AO.cell]; rfl
  have lo := AO.lt
  have HBW := Lib.hid (show Below w.heap.size w W from by
    have := HB2.out.size
    exact HB2.out.trans ((HB23.out.mono this).trans (f3W.below (by have := HSS.out; omega) (by have := HB3.out.size; omega))))
  have HCW := Lib.hid (hch.far (w' := W) (fun k _ hk => h4W.block k hk))
  have l12 := HFIL.out.low.size
  have HSB := Lib.hid (show ∀ j, j < N → W.cell? ⟨sb, j, none⟩ = some (.bool (sp j)) from fun j hj => by
    have h1 := HC1.out j hj
    have := World.block_lt_of_cell? _ _ h1
    exact f3W.cell (by have := HSS.out; have h9 : sb < w1.heap.size := World.block_lt_of_cell? _ _ h1; omega) (kept HB23.out (kept HFIL.out.low h1)))
  have HNR := Lib.hid (show NR W nb N q from fun j hj => by
    obtain ⟨cs, h1, h2, h3⟩ := HFIL.out.nums
    have h9 := h1.lt
    rw [HNB.out]
    exact f3W.cell (by have := HSS.out; omega) (kept HB23.out (by rw [h1.cell]; exact h3 j hj)))
  have HOW := Lib.hid how
  have HW := Lib.hid hW
  clear AO h4W f3W hch hfr hD how hW l12
  go_wp2_with fail
  rw [← HW.out, ← HOW.out]
  go_loop [13, 14] (fun f i => AL N sp f i) (fun _ i => N - (intOf i).toNat)
  case atStart => exact ⟨0, false, rfl, rfl, Lib.hid rfl, Nat.zero_le _⟩
  case round =>
    obtain ⟨k, fb, rfl, rfl, HFB, hk⟩ := hrel
    by_cases hlt : k < N
    · have cs := HSB.out k hlt
      have lsb := World.block_lt_of_cell? _ _ cs
      obtain rfl := HSA.out (by omega)
      obtain ⟨y, hy⟩ : ∃ y, y = sp k := ⟨_, rfl⟩
      rw [← hy] at cs
      have HY := Lib.hid hy
      clear hy
      cases y
      · go_wp2_with fail
        go_round
        case rel => exact ⟨k + 1, fb, by go_num, rfl, Lib.hid (by rw [anyB, ← HFB.out, ← HY.out]; simp), by omega⟩
        case measure => simp [intOf]; omega
      · go_wp2_with fail
        go_round
        case rel => exact ⟨k + 1, true, by go_num, rfl, Lib.hid (by rw [anyB, ← HY.out]; simp), by omega⟩
        case measure => simp [intOf]; omega
    · obtain rfl : k = N := by omega
      have hfb := HFB.out
      rw [anyB_true HANY.out] at hfb
      subst hfb
      go_wp2_with fail
      have hk0 : 0 < k := by obtain ⟨j, hj, _⟩ := HANY.out; omega
      obtain rfl := HSA.out hk0
      refine (sChain D sb nb k q sp a3 a0 T e0 _ (by omega) hk0 HCW.out HNR.out HSB.out).mono ?_
      rintro e w' ⟨rfl, hb⟩
      go_wp2_with fail
      go_ret
      exact ⟨rfl, HBW.out.trans (hb.mono HBW.out.size)⟩

theorem zzB9 (a0 : Int) (a1 : Bool) (a : Option Addr) (len cap : Nat) (a3 : Bool) (w : World) (hlen : len ≤ 9223372036854775807) : Calls Tryd.prog 26 #[.int .i32 a0, .bool a1, .slice a len cap, .bool a3] w (ZB len w) := by
  by_cases hs : len ≤ 4611686018427387904
  · exact zzB a0 a1 a len cap a3 w hs
  · have h0 : (0 : Int) ≤ (len : Int) := Int.natCast_nonneg _
    have h : (1048576 : Int) < (len : Int) := by omega
    clear hs
    go_enter Tryd.func26, Tryd.ntmps26
    go_wp2_with fail
    go_ret
    exact ⟨_, rfl, rfl⟩
set_option maxRecDepth 100000 in
theorem wBig (a0 : Int) (a1 : Bool) (a2 : Option Addr) (N cap2 : Nat) (z2 : List Bool) (a3 : Bool) (w : World) (hN : 65536 < N) (w2 : IsBools w a2 N cap2 z2) :
    Calls Tryd.prog 5 #[.int .i32 a0, .bool a1, .slice a2 N cap2, .bool a3] w fun e w' => e = .returned (.bool true) ∧ Below w.heap.size w w' := by
  have hN1 : (65536 : Int) < (N : Int) := by omega
  have hL : N ≤ 9223372036854775807 := by
    rcases w2 with ⟨_, rfl, _, _⟩ | ⟨x, _, h1, h2, h3, h4⟩
    · omega
    · unfold maxLen at h2; omega
  have hN2 : (N : Int) ≤ 9223372036854775807 := by omega
  clear w2
  go_enter Tryd.func5, Tryd.ntmps5
  go_wp2_with fail
  refine (zzB9 a0 a1 a2 N cap2 a3 w hL).mono ?_
  rintro e w' ⟨zb, rfl, rfl⟩
  cases zb
  all_goals
    go_wp2_with fail
    go_ret
    exact ⟨rfl, Below.refl _ _⟩

theorem walk (a0 : Int) (a1 : Bool) (a2 : Option Addr) (len2 cap2 : Nat) (z2 : List Bool) (a3 : Bool) (w : World) (w0' : (Lit.int .i32 a0).wf = true) (w2' : IsBools w a2 len2 cap2 z2) (hg0 : w.cell? ⟨4, 0, none⟩ = some (.int .u32 4294967295)) (hg1 : w.cell? ⟨4, 1, none⟩ = some (.int .u32 4294967295)) :
    Calls Tryd.prog 5 #[.int .i32 a0, .bool a1, .slice a2 len2 cap2, .bool a3] w fun e w' => e = .returned (.bool true) ∧ Below w.heap.size w w' := by
  by_cases hN : len2 ≤ 65536
  · cases a1
    · exact w0 a0 a2 len2 cap2 z2 a3 w w0' w2' hN
    · by_cases hs : ∃ j, j < len2 ∧ z2.getD j false = true
      · exact w1 a0 a2 len2 cap2 z2 a3 w w0' w2' hN hs
      · exact w1n a0 a2 len2 cap2 z2 a3 w w0' w2' hN (fun j hj => by cases h : z2.getD j false <;> simp_all)
  · exact wBig a0 a1 a2 len2 cap2 z2 a3 w (by omega) w2'
end fnObjectSpreadMatchesRightToLeftChain
end Go.Proofs.YtjlmaingeobgeaaDoor
