/- Proved here: the state of scanForUnusedTSImportEquals. Conditions as stated. -/
import Derived.Test.YthgcchgpplblbaaDoorUXE
import Derived.WalkKit
import Derived.WalkSpells
import Derived.WalkLawsBesides
import Derived.Lib.Hide
import Derived.Lib.SliceRun
import Derived.Deep.RegionWith
import Derived.OwnWalk
import Derived.Laws.OwnMore
import Derived.BigRegion
import Derived.Carry
import Derived.IntWalk
namespace Go.Proofs.YthgcchgpplblbaaDoor
open Go.RowKit
set_option linter.unusedSimpArgs false
set_option linter.unusedVariables false

namespace UX
/-- The statements' row: what was kept lies ahead, what is still to be seen from k on. -/
def SR (w : World) (S m : Nat) (dat : Nat → Value) (J : List Nat) (k : Nat) (K : List Nat) : Prop := ∃ cs, At w S 42 cs ∧ cs.size = m * 2 ∧ (∀ q, q < K.length → cs[q * 2]? = some (dat (K.getD q 0)) ∧ cs[q * 2 + 1]? = some (.int .i32 ((K.getD q 0 : Nat) : Int))) ∧ (∀ q, k ≤ q → q < J.length → cs[q * 2]? = some (dat (J.getD q 0)) ∧ cs[q * 2 + 1]? = some (.int .i32 ((J.getD q 0 : Nat) : Int)))
theorem SR.of_block {w w' : World} {S m : Nat} {dat : Nat → Value} {J K : List Nat} {k : Nat} (h : SR w S m dat J k K) (e : w'.heap[S]? = w.heap[S]?) : SR w' S m dat J k K := by
  obtain ⟨cs, h1, h2⟩ := h
  exact ⟨cs, e.trans h1, h2⟩
theorem SR.lt {w : World} {S m : Nat} {dat : Nat → Value} {J K : List Nat} {k : Nat} (h : SR w S m dat J k K) : S < w.heap.size := by obtain ⟨_, h1, _⟩ := h; exact h1.lt
theorem SR.ne {w : World} {S m : Nat} {dat : Nat → Value} {J K : List Nat} {k : Nat} (h : SR w S m dat J k K) {x t : Nat} {cs : Array Value} (hat : At w x t cs) (ht : t ≠ 42) : x ≠ S := by obtain ⟨_, h1, _⟩ := h; exact atNe hat h1 ht
theorem SR.skip {w : World} {S m : Nat} {dat : Nat → Value} {J K : List Nat} {k : Nat} (h : SR w S m dat J k K) : SR w S m dat J (k + 1) K := by
  obtain ⟨cs, h1, h2, h3, h4⟩ := h
  exact ⟨cs, h1, h2, h3, fun q hq hl => h4 q (by omega) hl⟩
theorem SR.put {w : World} {S m : Nat} {dat : Nat → Value} {J K : List Nat} {k i : Nat} (h : SR w S m dat J k K) (hk : K.length ≤ k) (hm : k < m) : SR ((w.setCell ⟨S, K.length * 2, none⟩ (dat i)).setCell ⟨S, K.length * 2 + 1, none⟩ (.int .i32 (i : Int))) S m dat J (k + 1) (K ++ [i]) := by
  obtain ⟨cs, h1, h2, h3, h4⟩ := h
  refine ⟨_, (h1.set (K.length * 2) (dat i)).set (K.length * 2 + 1) (.int .i32 (i : Int)), by simp [h2], fun q hq => ?_, fun q hq hl => ?_⟩
  · simp only [List.length_append, List.length_cons, List.length_nil] at hq
    by_cases e : q = K.length
    · subst e
      constructor
      · rw [Array.getElem?_setIfInBounds_ne (by omega), Array.getElem?_setIfInBounds_self_of_lt (by omega)]
        simp [List.getD]
      · rw [Array.getElem?_setIfInBounds_self_of_lt (by simp; omega)]
        simp [List.getD]
    · have e2 : (K ++ [i]).getD q 0 = K.getD q 0 := by simp [List.getD, List.getElem?_append_left (show q < K.length by omega)]
      rw [e2]
      constructor
      · rw [Array.getElem?_setIfInBounds_ne (by omega), Array.getElem?_setIfInBounds_ne (by omega)]
        exact (h3 q (by omega)).1
      · rw [Array.getElem?_setIfInBounds_ne (by omega), Array.getElem?_setIfInBounds_ne (by omega)]
        exact (h3 q (by omega)).2
  · constructor
    · rw [Array.getElem?_setIfInBounds_ne (by omega), Array.getElem?_setIfInBounds_ne (by omega)]
      exact (h4 q (by omega) hl).1
    · rw [Array.getElem?_setIfInBounds_ne (by omega), Array.getElem?_setIfInBounds_ne (by omega)]
      exact (h4 q (by omega) hl).2
/-- What a scan of J's first q statements has done. -/
structure SI (kd : Nat → Int) (b : Nat → Nat) (C : List Int) (J : List Nat) (q : Nat) (K : List Nat) (C' : List Int) (rem : Bool) : Prop where
  sub : K.Sublist (J.take q)
  lt : rem = true → K.length < q
  eq : rem = false → K = J.take q ∧ C' = C ∧ ∀ i ∈ J.take q, (kd i = 1 ∨ kd i = 2) → C.getD (b i) 0 ≠ 0
  keep : ∀ i ∈ J.take q, ¬ (kd i = 1 ∨ kd i = 2) → i ∈ K
theorem SI.start (kd : Nat → Int) (b : Nat → Nat) (C : List Int) (J : List Nat) : SI kd b C J 0 [] C false := ⟨by simp, (fun h => by cases h), fun _ => ⟨by simp, rfl, fun i hi => by simp at hi⟩, fun i hi => by simp at hi⟩
theorem SI.le {kd : Nat → Int} {b : Nat → Nat} {C : List Int} {J : List Nat} {q : Nat} {K : List Nat} {C' : List Int} {rem : Bool} (h : SI kd b C J q K C' rem) : K.length ≤ q := by
  have := h.sub.length_le
  simp at this
  omega
theorem take_snoc {J : List Nat} {q : Nat} (h : q < J.length) : J.take (q + 1) = J.take q ++ [J.getD q 0] := by
  rw [List.take_add_one]
  simp [List.getD, List.getElem?_eq_getElem h]
theorem SI.keepStep {kd : Nat → Int} {b : Nat → Nat} {C : List Int} {J : List Nat} {q : Nat} {K : List Nat} {C' : List Int} {rem : Bool} (h : SI kd b C J q K C' rem) (hq : q < J.length) (hc : (kd (J.getD q 0) = 1 ∨ kd (J.getD q 0) = 2) → C'.getD (b (J.getD q 0)) 0 ≠ 0) : SI kd b C J (q + 1) (K ++ [J.getD q 0]) C' rem := by
  refine ⟨?_, fun hr => ?_, fun hr => ?_, fun i hi hn => ?_⟩
  · rw [take_snoc hq]; exact h.sub.append (List.Sublist.refl _)
  · have := h.lt hr; simp; omega
  · obtain ⟨e1, e2, e3⟩ := h.eq hr
    rw [take_snoc hq]
    refine ⟨by rw [← e1], e2, fun i hi hk => ?_⟩
    rcases List.mem_append.1 hi with hi | hi
    · exact e3 i hi hk
    · simp only [List.mem_singleton] at hi
      subst hi
      rw [← e2]; exact hc hk
  · rw [take_snoc hq] at hi
    rcases List.mem_append.1 hi with hi | hi
    · exact List.mem_append_left _ (h.keep i hi hn)
    · exact List.mem_append_right _ hi
theorem SI.dropStep {kd : Nat → Int} {b : Nat → Nat} {C : List Int} {J : List Nat} {q : Nat} {K : List Nat} {C' : List Int} {rem : Bool} (C2 : List Int) (h : SI kd b C J q K C' rem) (hq : q < J.length) (hc : kd (J.getD q 0) = 1 ∨ kd (J.getD q 0) = 2) : SI kd b C J (q + 1) K C2 true := by
  refine ⟨?_, fun _ => ?_, (fun hr => by cases hr), fun i hi hn => ?_⟩
  · rw [take_snoc hq]; exact h.sub.trans (List.sublist_append_left _ _)
  · have := h.le; omega
  · rw [take_snoc hq] at hi
    rcases List.mem_append.1 hi with hi | hi
    · exact h.keep i hi hn
    · simp only [List.mem_singleton] at hi
      subst hi
      exact absurd hc hn
def DATS (w : World) (m : Nat) (kd : Nat → Int) (b v : Nat → Nat) (dat : Nat → Value) : Prop := ∀ i, i < m → STD w (kd i) (b i) (v i) (dat i) ∧ ∃ T q, dat i = .iface T (.pointer q)
theorem KX.of_kz {w w' : World} {Y S : Nat} {c1 c2 : Array Value} (h : KZ Y S w w') (hY : At w Y 54 c1) (hS : At w S 42 c2) : KX w w' := fun x t cs hat h1 h2 _ => (h.2 x hat.lt (atNe hat hY h1) (atNe hat hS h2)).trans hat
theorem DATS.keep {w w' : World} {m : Nat} {kd : Nat → Int} {b v : Nat → Nat} {dat : Nat → Value} (h : DATS w m kd b v dat) (hk : KX w w') : DATS w' m kd b v dat := fun i hi => ⟨(h i hi).1.keep hk, (h i hi).2⟩
/-- The world of a scan, between two statements. -/
structure SW (p Y S n m r : Nat) (kd : Nat → Int) (b v : Nat → Nat) (dat : Nat → Value) (C : List Int) (J : List Nat) (k : Nat) (K : List Nat) (C' : List Int) (kp rm : Bool) (w0 w : World) : Prop where
  px : PX w p Y n
  sy : SYM w Y n C'
  sr : SR w S m dat J k K
  ar : At w r 178 #[.slice none 0 0, .bool kp, .bool rm]
  da : DATS w m kd b v dat
  si : SI kd b C J k K C' rm
  kz : KZ Y S w0 w
  rn : w0.heap.size ≤ r
  g0 : w.cell? ⟨0, 0, none⟩ = some (.int .u32 4294967295)
  g1 : w.cell? ⟨0, 1, none⟩ = some (.int .u32 4294967295)
/-- A step that leaves all but Y and r: the rest of the state goes along. -/
theorem SW.z {p Y S n m r : Nat} {kd : Nat → Int} {b v : Nat → Nat} {dat : Nat → Value} {C : List Int} {J : List Nat} {k : Nat} {K : List Nat} {C' : List Int} {kp rm : Bool} {w0 w w' : World} (h : SW p Y S n m r kd b v dat C J k K C' kp rm w0 w) (hk : KZ Y r w w') (hb : 0 ≠ Y ∧ 0 ≠ r) :
    PX w' p Y n ∧ SR w' S m dat J k K ∧ DATS w' m kd b v dat ∧ KZ Y S w0 w' ∧ w'.cell? ⟨0, 0, none⟩ = some (.int .u32 4294967295) ∧ w'.cell? ⟨0, 1, none⟩ = some (.int .u32 4294967295) := by
  have eS := hk.2 S h.sr.lt (by obtain ⟨_, h1, _⟩ := h.sr; exact h.sy.ne h1 (by decide)) (h.sr.ne h.ar (by decide)).symm
  have eP := hk.2 p h.px.lt (h.px.neY h.sy) (h.px.ne h.ar (by decide)).symm
  have e0 := hk.2 0 (World.block_lt_of_cell? _ _ h.g0) hb.1 hb.2
  have hx : KX w w' := fun x t cs hat h1 h2 h3 => (hk.2 x hat.lt (h.sy.ne hat h1) (atNe hat h.ar h3)).trans hat
  refine ⟨h.px.of_block eP, h.sr.of_block eS, h.da.keep hx, ⟨h.kz.1.trans hk.1, fun x hxx hy hs => (hk.2 x (Nat.lt_of_lt_of_le hxx h.kz.1.size) hy (by have := h.rn; omega)).trans (h.kz.2 x hxx hy hs)⟩, (World.cell?_of_block (a := ⟨0, 0, none⟩) e0).trans h.g0, (World.cell?_of_block (a := ⟨0, 1, none⟩) e0).trans h.g1⟩
theorem SW.below {p Y S n m r : Nat} {kd : Nat → Int} {b v : Nat → Nat} {dat : Nat → Value} {C : List Int} {J : List Nat} {k : Nat} {K : List Nat} {C' : List Int} {kp rm : Bool} {w0 w w' : World} (h : SW p Y S n m r kd b v dat C J k K C' kp rm w0 w) (hb : Below w.heap.size w w') (hr : 0 ≠ Y ∧ 0 ≠ r) : SW p Y S n m r kd b v dat C J k K C' kp rm w0 w' := by
  obtain ⟨h1, h2, h3, h4, h5, h6⟩ := h.z (KZ.of_below hb) hr
  exact ⟨h1, h.sy.below hb, h2, h.ar.below hb h.ar.lt, h3, h.si, h4, h.rn, h5, h6⟩
theorem SW.put {p Y S n m r : Nat} {kd : Nat → Int} {b v : Nat → Nat} {dat : Nat → Value} {C : List Int} {J : List Nat} {k : Nat} {K : List Nat} {C' : List Int} {kp rm : Bool} {w0 w : World} (h : SW p Y S n m r kd b v dat C J k K C' kp rm w0 w) (hm : k < m) (hJ : k < J.length) (h0 : 0 ≠ S) (hc : (kd (J.getD k 0) = 1 ∨ kd (J.getD k 0) = 2) → C'.getD (b (J.getD k 0)) 0 ≠ 0) :
    SW p Y S n m r kd b v dat C J (k + 1) (K ++ [J.getD k 0]) C' kp rm w0 ((w.setCell ⟨S, K.length * 2, none⟩ (dat (J.getD k 0))).setCell ⟨S, K.length * 2 + 1, none⟩ (.int .i32 ((J.getD k 0 : Nat) : Int))) := by
  have hs : ∀ x, x ≠ S → ((w.setCell ⟨S, K.length * 2, none⟩ (dat (J.getD k 0))).setCell ⟨S, K.length * 2 + 1, none⟩ (.int .i32 ((J.getD k 0 : Nat) : Int))).heap[x]? = w.heap[x]? := fun x hx => by rw [Below.heap_setCell _ _ _ x (by simpa using hx), Below.heap_setCell _ _ _ x (by simpa using hx)]
  obtain ⟨cS, hS, hS2⟩ := h.sr
  have hp : p ≠ S := (h.px.ne hS (by decide)).symm
  have hy : Y ≠ S := (h.sy.ne hS (by decide)).symm
  have hr : r ≠ S := atNe h.ar hS (by decide)
  have hx : KX w _ := fun x t cs hat h1 h2 h3 => (hs x (atNe hat hS h2)).trans hat
  exact ⟨h.px.of_block (hs p hp), h.sy.of_block (hs Y hy), SR.put ⟨cS, hS, hS2⟩ h.si.le hm, (hs r hr).trans h.ar, h.da.keep hx, h.si.keepStep hJ hc, ⟨(h.kz.1.setCell (Nat.zero_le _) _).setCell (Nat.zero_le _) _, fun x hxx hxy hxs => (hs x hxs).trans (h.kz.2 x hxx hxy hxs)⟩, h.rn, (World.cell?_of_block (a := ⟨0, 0, none⟩) (hs 0 h0)).trans h.g0, (World.cell?_of_block (a := ⟨0, 1, none⟩) (hs 0 h0)).trans h.g1⟩
end UX
end Go.Proofs.YthgcchgpplblbaaDoor
