/- Proved here: the contract of EnsureValidIdentifier: it returns what one fold over the bytes gives. Condition: the string's length, as stated. -/
import Derived.Test.YtoblkmnhoiodcaaDoorBase
import Derived.Test.YtoblkmnhoiodcaaDoorEVP
import Derived.WalkKit
import Derived.WalkSpells
import Derived.WalkLawsBesides
import Derived.Lib.Hide
import Derived.Lib.SliceRun
import Derived.Deep.RegionWith
import Derived.OwnWalk
import Derived.Laws.BytesArg
import Derived.Laws.RangeAny
import Derived.Lib.OthersKept
namespace Go.Proofs.YtoblkmnhoiodcaaDoor
open Go.RowKit
set_option linter.unusedSimpArgs false
set_option linter.unusedVariables false

def Own (w : World) (B : Nat) (v : Value) (out : List Int) : Prop := w.ownsRow B 5 1 v out.length (out.map (Value.int .u8))
theorem Own.shape {w : World} {B : Nat} {v : Value} {out : List Int} (h : Own w B v out) : ∃ a c, v = .slice a out.length c := by
  obtain ⟨_, ⟨rfl, h⟩ | ⟨g, cap, cur, rfl, _⟩⟩ := h
  · rw [h]; exact ⟨_, _, rfl⟩
  · exact ⟨_, _, rfl⟩
theorem Own.row {w : World} {B : Nat} {v : Value} {out : List Int} (h : Own w B v out) : w.ownsRow B 5 1 v out.length (out.map (Value.int .u8)) := h
theorem Own.alloc {w : World} {B : Nat} {v : Value} {out : List Int} (h : Own w B v out) (o : Obj) : Own (w.alloc o) B v out := World.ownsRow.alloc h o
theorem Own.ne {w : World} {B k pos : Nat} {v : Value} {out : List Int} {s : ByteArray} (h : Own w B v out) (hk : w.heap[k]? = some (.stringIter s pos)) : v.ownBlock ≠ some k := by
  intro e
  obtain ⟨_, ⟨rfl, _⟩ | ⟨g, cap, cur, rfl, _, hg, _⟩⟩ := h
  · cases e
  · simp only [Value.ownBlock, Option.some.injEq] at e
    subst e
    rw [hg] at hk
    cases hk
theorem Own.iterAt {w : World} {B k pos : Nat} {v : Value} {out : List Int} {s : ByteArray} (h : Own w B v out) (hk : w.heap[k]? = some (.stringIter s pos)) (p : Nat) : Own (w.iterAt k s p) B v out := by
  have hne := h.ne hk
  refine World.ownsRow.kept (row := some k) h ⟨rfl, rfl, rfl, by rw [Lib.iterAt_size]; exact Nat.le_refl _, fun j _ hj => Lib.iterAt_other w k j s p (fun e => hj (by rw [e]))⟩ (.inr hne)
theorem Own.cells {w : World} {B g c : Nat} {out : List Int} {n : Nat} (h : Own w B (.slice (some ⟨g, 0, none⟩) n c) out) : ∀ i, i < out.length → w.cell? ⟨g, 0 + i, none⟩ = some (.int .u8 (out.getD i 0)) := by
  intro i hi
  have := World.ownsRow.cells h (g := g) rfl i (.int .u8 (out.getD i 0)) (by simp [List.getD, hi])
  rwa [Addr.add_lit] at this
theorem Own.full {w : World} {B : Nat} {v : Value} {out : List Int} (h : Own w B v out) (hne : out ≠ []) : ∃ g c, v = .slice (some ⟨g, 0, none⟩) out.length c := by
  obtain ⟨_, ⟨rfl, h⟩ | ⟨g, cap, cur, rfl, _⟩⟩ := h
  · exact absurd (List.length_eq_zero_iff.1 h) hne
  · exact ⟨_, _, rfl⟩
theorem iter_grown {w w' : World} {k pos : Nat} {s : ByteArray} {v : Value} (hk : w.heap[k]? = some (.stringIter s pos)) (hg : w.grownBy w' v.ownBlock) (hne : v.ownBlock ≠ some k) : w'.heap[k]? = some (.stringIter s pos) := by
  rw [hg.block k (Array.getElem?_eq_some_iff.1 hk).1 (fun e => hne e.symm)]; exact hk
theorem iter_alloc {w : World} {k pos : Nat} {s : ByteArray} (hk : w.heap[k]? = some (.stringIter s pos)) (o : Obj) : (w.alloc o).heap[k]? = some (.stringIter s pos) := by
  rw [Below.heap_alloc w o k (Array.getElem?_eq_some_iff.1 hk).1]; exact hk
theorem Own.base {w : World} {B : Nat} {v : Value} {out : List Int} (h : Own w B v out) : ∀ k, v.ownBlock = some k → B ≤ k := fun k hk => (World.ownsRow.lt h k hk).1
def EVRel (s : ByteArray) (w : World) (v g : Value) (wr : World) : Prop :=
  ∃ (pos : Nat) (out : List Int) (gg : Bool), pos ≤ s.size ∧ F (bAt s) pos = (out, gg) ∧ wr.heap[w.heap.size + 1]? = some (.stringIter s pos) ∧ g = .bool gg ∧ Own wr w.heap.size v out ∧ Below w.heap.size w wr
theorem Own.snoc2 {w : World} {B : Nat} {v : Value} {out : List Int} {c1 c2 : Int} (h : w.ownsRow B 5 1 v (out.length + 1 + 1) (out.map (Value.int .u8) ++ [.int .u8 c1, .int .u8 c2])) : Own w B v (out ++ [c1] ++ [c2]) := by
  unfold Own
  simpa using h
theorem Own.snoc {w : World} {B : Nat} {v : Value} {out : List Int} {ch : Int} (h : w.ownsRow B 5 1 v (out.length + 1) (out.map (Value.int .u8) ++ [.int .u8 ch])) : Own w B v (out ++ [ch]) := by
  unfold Own
  simpa using h
def RPost (s : ByteArray) (w : World) (e : Ending) (w' : World) : Prop := e = .returned (.string (res s)) ∧ Below w.heap.size w w'
theorem iterPos_of {w : World} {k pos : Nat} {s : ByteArray} (hk : w.heap[k]? = some (.stringIter s pos)) : w.iterPos k = pos := by simp [World.iterPos, hk]

theorem own_new (w : World) : Own ((w.alloc (.cells #[] 5)).alloc (.stringIter ⟨#[]⟩ 0)) w.heap.size (.slice (some ⟨w.heap.size, 0, none⟩) 0 0) [] :=
  World.ownsRow.alloc (World.ownsRow_made w #[] 0 (Nat.le_refl _) (by unfold maxLen; omega) rfl) _
set_option maxRecDepth 100000 in
set_option maxHeartbeats 8000000 in
theorem ensure_any (s : ByteArray) (w : World) (hs : s.size ≤ 1048576) : Calls Tryd.prog 26 #[.string s] w (RPost s w) := by
  obtain ⟨i0, hi, hz0, hz1, hz2⟩ := info_parts (P := Tryd.prog) (e := 5) (z := .int .u8 0) (size := 1) (bytes := 1) (by kernel_rfl)
  have HI := Lib.hid hi
  have HI0 := Lib.hid hz0
  have HI1 := Lib.hid hz1
  have HI2 := Lib.hid hz2
  clear hi hz0 hz1 hz2
  go_enter Tryd.func26, Tryd.ntmps26
  go_wp2_with fail
  go_loopw [3, 4] (fun v g wr => EVRel s w v g wr) (fun _ _ wr => s.size - wr.iterPos (w.heap.size + 1))
  case atStart =>
    refine ⟨0, [], false, Nat.zero_le _, rfl, ?_, rfl, ?_, ?_⟩
    · have := World.iter_heap (w.alloc (.cells #[] 5)) s 0
      simpa using this
    · exact World.ownsRow.alloc (World.ownsRow_made w #[] 0 (Nat.le_refl _) (by unfold maxLen; omega) rfl) _
    · exact ((Below.refl _ w).alloc (Nat.le_refl _) _).alloc (by simp) _
  case round =>
    obtain ⟨pos, out, gg, hps, hF, hk, rfl, hown, hb⟩ := hrel
    have hlen : out.length ≤ 2 * pos := by have := F_len (bAt s) pos; rw [hF] at this; exact this
    have HF := Lib.hid hF
    by_cases hp : pos < s.size
    · obtain ⟨r, p, hr, hpp, r0, r1, p0, p1, hcase⟩ := round_two s pos hp hF
      clear hF
      obtain ⟨a, c, rfl⟩ := hown.shape
      have hnext : ∀ ty, (Instr.next (.pointer (some ⟨w.heap.size + 1, 0, none⟩)) true ty).run Tryd.prog wr = .ok (.tuple #[.bool true, .int .i64 pos, .int .i32 r]) (wr.iterAt (w.heap.size + 1) s p) := fun ty => by
        rw [Lib.run_next_any_at wr (w.heap.size + 1) s pos ty hk hp, hr, hpp]
      have OWN := Lib.hid (hown.iterAt hk p)
      have IT := Lib.hid (Lib.iterAt_heap wr (w.heap.size + 1) s pos p hk)
      have WB := Lib.hid (Lib.below_iterAt hb (show w.heap.size ≤ w.heap.size + 1 by omega) s p)
      have MU := Lib.hid (iterPos_of hk)
      clear hr hpp hk hown hb
      obtain ⟨W, hW⟩ : ∃ W, W = wr.iterAt (w.heap.size + 1) s p := ⟨_, rfl⟩
      rw [← hW] at OWN IT WB
      simp only [← hW] at hnext
      clear hW
      rcases hcase with ⟨hc, hr128, hF'⟩ | ⟨hc, hF'⟩
      · have hcl := cls_yes hc
        clear hc
        have HF' := Lib.hid hF'
        clear hF'
        rcases hcl with ⟨x0, x1⟩ | ⟨x0, x1⟩ | ⟨x0, x1, hne⟩
        · have t0 : decide (97 ≤ r) = true := by simp; omega
          have t1 : decide (r ≤ 122) = true := by simp; omega
          cases gg
          · have WP := Lib.hid (show F (bAt s) p = (out ++ [r], false) from by rw [HF'.out]; simp [gp])
            go_wp2_with (with_reducible refine wpList_append_own _ (o := ⟨some 48, _, _, _, _, _⟩) rfl _ _ 227 rfl w.heap.size 5 i0 (.int .u8 0) 1 1 Tryd.underlying227 HI.out HI0.out HI1.out HI2.out rfl (by decide) _ _ _ rfl (OWN.out.alloc _).row ⟨W.heap.size, 0, none⟩ 1 1 [.int .u8 r] rfl rfl ?c1 ?c2 ?c3 ?c4 ?c5 ?_)
            case c1 =>
              intro j u hj
              have hj0 : j = 0 := by rcases j with _ | j <;> simp at hj ⊢
              subst hj0
              simp at hj
              subst hj
              simp [Addr.add_lit, World.cell?_alloc_new]
            case c2 => simp [Value.oneCell']
            case c3 => unfold maxLen; simp; omega
            case c4 => simp; omega
            case c5 => have := WB.out.size; simp; omega
            intro v1 W1 hown1 hgr1 _
            have OWN1 := Lib.hid (Own.snoc hown1)
            have IT1 := Lib.hid (iter_grown (iter_alloc IT.out _) hgr1 (OWN.out.ne IT.out))
            have WB1 := Lib.hid (Below.grown (WB.out.alloc WB.out.size _) hgr1 (by have := WB.out.size; simp; omega) (OWN.out.base))
            clear hown1 hgr1 HF'
            go_wp2_with fail
            go_roundw
            case rel => exact ⟨p, _, _, p1, WP.out, IT1.out, rfl, OWN1.out, WB1.out⟩
            case measure => rw [MU.out, iterPos_of IT1.out]; omega
          · have WP := Lib.hid (show F (bAt s) p = (out ++ [95] ++ [r], false) from by rw [HF'.out]; simp [gp])
            go_wp2_with (with_reducible refine wpList_append_own _ (o := ⟨some 43, _, _, _, _, _⟩) rfl _ _ 227 rfl w.heap.size 5 i0 (.int .u8 0) 1 1 Tryd.underlying227 HI.out HI0.out HI1.out HI2.out rfl (by decide) _ _ _ rfl (OWN.out.alloc _).row ⟨W.heap.size, 0, none⟩ 1 1 [.int .u8 95] rfl rfl ?c1 ?c2 ?c3 ?c4 ?c5 ?_)
            case c1 =>
              intro j u hj
              have hj0 : j = 0 := by rcases j with _ | j <;> simp at hj ⊢
              subst hj0
              simp at hj
              subst hj
              simp [Addr.add_lit, World.cell?_alloc_new]
            case c2 => simp [Value.oneCell']
            case c3 => unfold maxLen; simp; omega
            case c4 => simp; omega
            case c5 => have := WB.out.size; simp; omega
            intro v1 W1 hown1 hgr1 _
            have OWN1 := Lib.hid (Own.snoc hown1)
            have IT1 := Lib.hid (iter_grown (iter_alloc IT.out _) hgr1 (OWN.out.ne IT.out))
            have W1B := Lib.hid (Below.grown (WB.out.alloc WB.out.size _) hgr1 (by have := WB.out.size; simp; omega) (OWN.out.base))
            clear hown1 hgr1 HF' OWN IT
            go_wp2_with (with_reducible refine wpList_append_own _ (o := ⟨some 48, _, _, _, _, _⟩) rfl _ _ 227 rfl w.heap.size 5 i0 (.int .u8 0) 1 1 Tryd.underlying227 HI.out HI0.out HI1.out HI2.out rfl (by decide) _ _ _ rfl (OWN1.out.alloc _).row ⟨W1.heap.size, 0, none⟩ 1 1 [.int .u8 r] rfl rfl ?c1 ?c2 ?c3 ?c4 ?c5 ?_)
            case c1 =>
              intro j u hj
              have hj0 : j = 0 := by rcases j with _ | j <;> simp at hj ⊢
              subst hj0
              simp at hj
              subst hj
              simp [Addr.add_lit, World.cell?_alloc_new]
            case c2 => simp [Value.oneCell']
            case c3 => unfold maxLen; simp; omega
            case c4 => simp; omega
            case c5 => have := W1B.out.size; simp; omega
            intro v2 W2 hown2 hgr2 _
            have OWN2 := Lib.hid (Own.snoc2 hown2)
            have IT2 := Lib.hid (iter_grown (iter_alloc IT1.out _) hgr2 (OWN1.out.ne IT1.out))
            have WB2 := Lib.hid (Below.grown (W1B.out.alloc W1B.out.size _) hgr2 (by have := W1B.out.size; simp; omega) (OWN1.out.base))
            clear hown2 hgr2
            go_wp2_with fail
            go_roundw
            case rel => exact ⟨p, _, _, p1, WP.out, IT2.out, rfl, OWN2.out, WB2.out⟩
            case measure => rw [MU.out, iterPos_of IT2.out]; omega
        · have t0 : decide (97 ≤ r) = false := by simp; omega
          have t1 : decide (65 ≤ r) = true := by simp; omega
          have t2 : decide (r ≤ 90) = true := by simp; omega
          cases gg
          · have WP := Lib.hid (show F (bAt s) p = (out ++ [r], false) from by rw [HF'.out]; simp [gp])
            go_wp2_with (with_reducible refine wpList_append_own _ (o := ⟨some 48, _, _, _, _, _⟩) rfl _ _ 227 rfl w.heap.size 5 i0 (.int .u8 0) 1 1 Tryd.underlying227 HI.out HI0.out HI1.out HI2.out rfl (by decide) _ _ _ rfl (OWN.out.alloc _).row ⟨W.heap.size, 0, none⟩ 1 1 [.int .u8 r] rfl rfl ?c1 ?c2 ?c3 ?c4 ?c5 ?_)
            case c1 =>
              intro j u hj
              have hj0 : j = 0 := by rcases j with _ | j <;> simp at hj ⊢
              subst hj0
              simp at hj
              subst hj
              simp [Addr.add_lit, World.cell?_alloc_new]
            case c2 => simp [Value.oneCell']
            case c3 => unfold maxLen; simp; omega
            case c4 => simp; omega
            case c5 => have := WB.out.size; simp; omega
            intro v1 W1 hown1 hgr1 _
            have OWN1 := Lib.hid (Own.snoc hown1)
            have IT1 := Lib.hid (iter_grown (iter_alloc IT.out _) hgr1 (OWN.out.ne IT.out))
            have WB1 := Lib.hid (Below.grown (WB.out.alloc WB.out.size _) hgr1 (by have := WB.out.size; simp; omega) (OWN.out.base))
            clear hown1 hgr1 HF'
            go_wp2_with fail
            go_roundw
            case rel => exact ⟨p, _, _, p1, WP.out, IT1.out, rfl, OWN1.out, WB1.out⟩
            case measure => rw [MU.out, iterPos_of IT1.out]; omega
          · have WP := Lib.hid (show F (bAt s) p = (out ++ [95] ++ [r], false) from by rw [HF'.out]; simp [gp])
            go_wp2_with (with_reducible refine wpList_append_own _ (o := ⟨some 43, _, _, _, _, _⟩) rfl _ _ 227 rfl w.heap.size 5 i0 (.int .u8 0) 1 1 Tryd.underlying227 HI.out HI0.out HI1.out HI2.out rfl (by decide) _ _ _ rfl (OWN.out.alloc _).row ⟨W.heap.size, 0, none⟩ 1 1 [.int .u8 95] rfl rfl ?c1 ?c2 ?c3 ?c4 ?c5 ?_)
            case c1 =>
              intro j u hj
              have hj0 : j = 0 := by rcases j with _ | j <;> simp at hj ⊢
              subst hj0
              simp at hj
              subst hj
              simp [Addr.add_lit, World.cell?_alloc_new]
            case c2 => simp [Value.oneCell']
            case c3 => unfold maxLen; simp; omega
            case c4 => simp; omega
            case c5 => have := WB.out.size; simp; omega
            intro v1 W1 hown1 hgr1 _
            have OWN1 := Lib.hid (Own.snoc hown1)
            have IT1 := Lib.hid (iter_grown (iter_alloc IT.out _) hgr1 (OWN.out.ne IT.out))
            have W1B := Lib.hid (Below.grown (WB.out.alloc WB.out.size _) hgr1 (by have := WB.out.size; simp; omega) (OWN.out.base))
            clear hown1 hgr1 HF' OWN IT
            go_wp2_with (with_reducible refine wpList_append_own _ (o := ⟨some 48, _, _, _, _, _⟩) rfl _ _ 227 rfl w.heap.size 5 i0 (.int .u8 0) 1 1 Tryd.underlying227 HI.out HI0.out HI1.out HI2.out rfl (by decide) _ _ _ rfl (OWN1.out.alloc _).row ⟨W1.heap.size, 0, none⟩ 1 1 [.int .u8 r] rfl rfl ?c1 ?c2 ?c3 ?c4 ?c5 ?_)
            case c1 =>
              intro j u hj
              have hj0 : j = 0 := by rcases j with _ | j <;> simp at hj ⊢
              subst hj0
              simp at hj
              subst hj
              simp [Addr.add_lit, World.cell?_alloc_new]
            case c2 => simp [Value.oneCell']
            case c3 => unfold maxLen; simp; omega
            case c4 => simp; omega
            case c5 => have := W1B.out.size; simp; omega
            intro v2 W2 hown2 hgr2 _
            have OWN2 := Lib.hid (Own.snoc2 hown2)
            have IT2 := Lib.hid (iter_grown (iter_alloc IT1.out _) hgr2 (OWN1.out.ne IT1.out))
            have WB2 := Lib.hid (Below.grown (W1B.out.alloc W1B.out.size _) hgr2 (by have := W1B.out.size; simp; omega) (OWN1.out.base))
            clear hown2 hgr2
            go_wp2_with fail
            go_roundw
            case rel => exact ⟨p, _, _, p1, WP.out, IT2.out, rfl, OWN2.out, WB2.out⟩
            case measure => rw [MU.out, iterPos_of IT2.out]; omega
        · have hpos : 0 < out.length := List.length_pos_iff.2 hne
          have hdec : decide (0 < out.length) = true := by simpa using hpos
          clear hne
          have t0 : decide (97 ≤ r) = false := by simp; omega
          have t1 : decide (65 ≤ r) = false := by simp; omega
          have t2 : decide (48 ≤ r) = true := by simp; omega
          have t3 : decide (r ≤ 57) = true := by simp; omega
          cases gg
          · have WP := Lib.hid (show F (bAt s) p = (out ++ [r], false) from by rw [HF'.out]; simp [gp])
            go_wp2_with (with_reducible refine wpList_append_own _ (o := ⟨some 48, _, _, _, _, _⟩) rfl _ _ 227 rfl w.heap.size 5 i0 (.int .u8 0) 1 1 Tryd.underlying227 HI.out HI0.out HI1.out HI2.out rfl (by decide) _ _ _ rfl (OWN.out.alloc _).row ⟨W.heap.size, 0, none⟩ 1 1 [.int .u8 r] rfl rfl ?c1 ?c2 ?c3 ?c4 ?c5 ?_)
            case c1 =>
              intro j u hj
              have hj0 : j = 0 := by rcases j with _ | j <;> simp at hj ⊢
              subst hj0
              simp at hj
              subst hj
              simp [Addr.add_lit, World.cell?_alloc_new]
            case c2 => simp [Value.oneCell']
            case c3 => unfold maxLen; simp; omega
            case c4 => simp; omega
            case c5 => have := WB.out.size; simp; omega
            intro v1 W1 hown1 hgr1 _
            have OWN1 := Lib.hid (Own.snoc hown1)
            have IT1 := Lib.hid (iter_grown (iter_alloc IT.out _) hgr1 (OWN.out.ne IT.out))
            have WB1 := Lib.hid (Below.grown (WB.out.alloc WB.out.size _) hgr1 (by have := WB.out.size; simp; omega) (OWN.out.base))
            clear hown1 hgr1 HF'
            go_wp2_with fail
            go_roundw
            case rel => exact ⟨p, _, _, p1, WP.out, IT1.out, rfl, OWN1.out, WB1.out⟩
            case measure => rw [MU.out, iterPos_of IT1.out]; omega
          · have WP := Lib.hid (show F (bAt s) p = (out ++ [95] ++ [r], false) from by rw [HF'.out]; simp [gp])
            go_wp2_with (with_reducible refine wpList_append_own _ (o := ⟨some 43, _, _, _, _, _⟩) rfl _ _ 227 rfl w.heap.size 5 i0 (.int .u8 0) 1 1 Tryd.underlying227 HI.out HI0.out HI1.out HI2.out rfl (by decide) _ _ _ rfl (OWN.out.alloc _).row ⟨W.heap.size, 0, none⟩ 1 1 [.int .u8 95] rfl rfl ?c1 ?c2 ?c3 ?c4 ?c5 ?_)
            case c1 =>
              intro j u hj
              have hj0 : j = 0 := by rcases j with _ | j <;> simp at hj ⊢
              subst hj0
              simp at hj
              subst hj
              simp [Addr.add_lit, World.cell?_alloc_new]
            case c2 => simp [Value.oneCell']
            case c3 => unfold maxLen; simp; omega
            case c4 => simp; omega
            case c5 => have := WB.out.size; simp; omega
            intro v1 W1 hown1 hgr1 _
            have OWN1 := Lib.hid (Own.snoc hown1)
            have IT1 := Lib.hid (iter_grown (iter_alloc IT.out _) hgr1 (OWN.out.ne IT.out))
            have W1B := Lib.hid (Below.grown (WB.out.alloc WB.out.size _) hgr1 (by have := WB.out.size; simp; omega) (OWN.out.base))
            clear hown1 hgr1 HF' OWN IT
            go_wp2_with (with_reducible refine wpList_append_own _ (o := ⟨some 48, _, _, _, _, _⟩) rfl _ _ 227 rfl w.heap.size 5 i0 (.int .u8 0) 1 1 Tryd.underlying227 HI.out HI0.out HI1.out HI2.out rfl (by decide) _ _ _ rfl (OWN1.out.alloc _).row ⟨W1.heap.size, 0, none⟩ 1 1 [.int .u8 r] rfl rfl ?c1 ?c2 ?c3 ?c4 ?c5 ?_)
            case c1 =>
              intro j u hj
              have hj0 : j = 0 := by rcases j with _ | j <;> simp at hj ⊢
              subst hj0
              simp at hj
              subst hj
              simp [Addr.add_lit, World.cell?_alloc_new]
            case c2 => simp [Value.oneCell']
            case c3 => unfold maxLen; simp; omega
            case c4 => simp; omega
            case c5 => have := W1B.out.size; simp; omega
            intro v2 W2 hown2 hgr2 _
            have OWN2 := Lib.hid (Own.snoc2 hown2)
            have IT2 := Lib.hid (iter_grown (iter_alloc IT1.out _) hgr2 (OWN1.out.ne IT1.out))
            have WB2 := Lib.hid (Below.grown (W1B.out.alloc W1B.out.size _) hgr2 (by have := W1B.out.size; simp; omega) (OWN1.out.base))
            clear hown2 hgr2
            go_wp2_with fail
            go_roundw
            case rel => exact ⟨p, _, _, p1, WP.out, IT2.out, rfl, OWN2.out, WB2.out⟩
            case measure => rw [MU.out, iterPos_of IT2.out]; omega
      · have hcl := cls_no hc
        clear hc
        have HF' := Lib.hid hF'
        clear hF'
        by_cases hne : out = []
        · subst hne
          have hgg : gg = false := by
            cases gg
            · rfl
            · exact absurd rfl (F_gap HF.out)
          subst hgg
          have hcl' : (122 < r) ∨ (90 < r ∧ r < 97) ∨ (57 < r ∧ r < 65) ∨ r < 48 ∨ (48 ≤ r ∧ r ≤ 57) := by
            rcases hcl with h | h
            · omega
            · omega
          clear hcl
          rcases hcl' with x0 | x0 | x0 | x0 | x0
          · have t0 : decide (97 ≤ r) = true := by simp; omega
            have t1 : decide (r ≤ 122) = false := by simp; omega
            have t2 : decide (65 ≤ r) = true := by simp; omega
            have t3 : decide (r ≤ 90) = false := by simp; omega
            have t4 : decide (48 ≤ r) = true := by simp; omega
            have t5 : decide (r ≤ 57) = false := by simp; omega
            go_wp2_with fail
            go_roundw
            case rel => exact ⟨p, _, _, p1, HF'.out, IT.out, rfl, OWN.out, WB.out⟩
            case measure => rw [MU.out, iterPos_of IT.out]; omega
          · have t0 : decide (97 ≤ r) = false := by simp; omega
            have t1 : decide (65 ≤ r) = true := by simp; omega
            have t2 : decide (r ≤ 90) = false := by simp; omega
            have t3 : decide (48 ≤ r) = true := by simp; omega
            have t4 : decide (r ≤ 57) = false := by simp; omega
            go_wp2_with fail
            go_roundw
            case rel => exact ⟨p, _, _, p1, HF'.out, IT.out, rfl, OWN.out, WB.out⟩
            case measure => rw [MU.out, iterPos_of IT.out]; omega
          · have t0 : decide (97 ≤ r) = false := by simp; omega
            have t1 : decide (65 ≤ r) = false := by simp; omega
            have t2 : decide (48 ≤ r) = true := by simp; omega
            have t3 : decide (r ≤ 57) = false := by simp; omega
            go_wp2_with fail
            go_roundw
            case rel => exact ⟨p, _, _, p1, HF'.out, IT.out, rfl, OWN.out, WB.out⟩
            case measure => rw [MU.out, iterPos_of IT.out]; omega
          · have t0 : decide (97 ≤ r) = false := by simp; omega
            have t1 : decide (65 ≤ r) = false := by simp; omega
            have t2 : decide (48 ≤ r) = false := by simp; omega
            go_wp2_with fail
            go_roundw
            case rel => exact ⟨p, _, _, p1, HF'.out, IT.out, rfl, OWN.out, WB.out⟩
            case measure => rw [MU.out, iterPos_of IT.out]; omega
          · have t0 : decide (97 ≤ r) = false := by simp; omega
            have t1 : decide (65 ≤ r) = false := by simp; omega
            have t2 : decide (48 ≤ r) = true := by simp; omega
            have t3 : decide (r ≤ 57) = true := by simp; omega
            go_wp2_with fail
            go_roundw
            case rel => exact ⟨p, _, _, p1, HF'.out, IT.out, rfl, OWN.out, WB.out⟩
            case measure => rw [MU.out, iterPos_of IT.out]; omega
        · have hpos : 0 < out.length := List.length_pos_iff.2 hne
          have hdec : decide (0 < out.length) = true := by simpa using hpos
          have HF2 := Lib.hid (show F (bAt s) p = (out, true) from by rw [HF'.out]; simp [hne])
          have hcl' : (122 < r) ∨ (90 < r ∧ r < 97) ∨ (57 < r ∧ r < 65) ∨ r < 48 := by
            rcases hcl with h | h
            · omega
            · exact absurd h.1 hne
          clear hcl hne HF'
          rcases hcl' with x0 | x0 | x0 | x0
          · have t0 : decide (97 ≤ r) = true := by simp; omega
            have t1 : decide (r ≤ 122) = false := by simp; omega
            have t2 : decide (65 ≤ r) = true := by simp; omega
            have t3 : decide (r ≤ 90) = false := by simp; omega
            have t4 : decide (48 ≤ r) = true := by simp; omega
            have t5 : decide (r ≤ 57) = false := by simp; omega
            go_wp2_with fail
            go_roundw
            case rel => exact ⟨p, _, _, p1, HF2.out, IT.out, rfl, OWN.out, WB.out⟩
            case measure => rw [MU.out, iterPos_of IT.out]; omega
          · have t0 : decide (97 ≤ r) = false := by simp; omega
            have t1 : decide (65 ≤ r) = true := by simp; omega
            have t2 : decide (r ≤ 90) = false := by simp; omega
            have t3 : decide (48 ≤ r) = true := by simp; omega
            have t4 : decide (r ≤ 57) = false := by simp; omega
            go_wp2_with fail
            go_roundw
            case rel => exact ⟨p, _, _, p1, HF2.out, IT.out, rfl, OWN.out, WB.out⟩
            case measure => rw [MU.out, iterPos_of IT.out]; omega
          · have t0 : decide (97 ≤ r) = false := by simp; omega
            have t1 : decide (65 ≤ r) = false := by simp; omega
            have t2 : decide (48 ≤ r) = true := by simp; omega
            have t3 : decide (r ≤ 57) = false := by simp; omega
            go_wp2_with fail
            go_roundw
            case rel => exact ⟨p, _, _, p1, HF2.out, IT.out, rfl, OWN.out, WB.out⟩
            case measure => rw [MU.out, iterPos_of IT.out]; omega
          · have t0 : decide (97 ≤ r) = false := by simp; omega
            have t1 : decide (65 ≤ r) = false := by simp; omega
            have t2 : decide (48 ≤ r) = false := by simp; omega
            go_wp2_with fail
            go_roundw
            case rel => exact ⟨p, _, _, p1, HF2.out, IT.out, rfl, OWN.out, WB.out⟩
            case measure => rw [MU.out, iterPos_of IT.out]; omega
    · have hnext : ∀ ty, (Instr.next (.pointer (some ⟨w.heap.size + 1, 0, none⟩)) true ty).run Tryd.prog wr = .ok (.tuple #[.bool false]) wr := fun ty => Lib.run_next_end_at wr (w.heap.size + 1) s pos ty hk hp
      have epos : pos = s.size := by omega
      subst epos
      have WB := Lib.hid hb
      clear hb hk hF
      by_cases hne : out = []
      · subst hne
        have RS := Lib.hid (res_nil (s := s) (by rw [HF.out]))
        obtain ⟨a, c, rfl⟩ := hown.shape
        clear hown
        go_wp2_with fail
        go_ret
        exact ⟨by rw [RS.out]; rfl, WB.out⟩
      · have RS := Lib.hid (show res s = strOfNums out from by rw [res_some (by rw [HF.out]; exact hne), HF.out])
        obtain ⟨g, c, rfl⟩ := hown.full hne
        have hcv : (convert 227 9 (.slice (some ⟨g, 0, none⟩) out.length c)).run Tryd.prog wr = .ok (.string (strOfNums out)) wr := run_convert_bytes_arg wr 227 5 Tryd.underlying227 Tryd.underlying5 g 0 _ _ out rfl hown.cells 9 Tryd.underlying9
        have hl1 : ((out.length : Int) == 0) = false := by simpa using hne
        have hl2 : (out.length == 0) = false := by simpa using hne
        clear hown hne
        go_wp2_with fail
        go_ret
        exact ⟨by rw [RS.out]; rfl, WB.out⟩
end Go.Proofs.YtoblkmnhoiodcaaDoor
