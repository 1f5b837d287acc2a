/- Proved here: strings.LastIndexAny on the text of the two bytes 47, 92: its answer lies between -1 and the last index. Condition: the decoder's tables, the string's length, as stated. -/
import Derived.Test.YtoblkmnhoiodcaaDoorGIB
namespace Go.Proofs.YtoblkmnhoiodcaaDoor
namespace IB
open Go.RowKit
set_option linter.unusedSimpArgs false
set_option linter.unusedVariables false

theorem tabsBelow {w w' : World} {a b : Nat} (h : Lib.Utf8Tabs a b w) (hb : Below w.heap.size w w') : Lib.Utf8Tabs a b w' := ⟨fun c hc => kept hb (h.1 c hc), fun i hi => ⟨kept hb (h.2 i hi).1, kept hb (h.2 i hi).2⟩⟩
def LAP (s : ByteArray) (w : World) (e : Ending) (w' : World) : Prop := (∃ k : Int, e = .returned (.int .i64 k) ∧ -1 ≤ k ∧ k < s.size) ∧ Below w.heap.size w w'
theorem slNe : sl.toList.isEmpty = false := by kernel_rfl
set_option maxRecDepth 100000 in
set_option maxHeartbeats 4000000 in
theorem lia1 (s : ByteArray) (w : World) (hs : s.size = 1) : Calls Tryd.prog 27 #[.string s, .string sl] w (LAP s w) := by
  have hlt : 0 < s.size := by omega
  obtain ⟨x, hx⟩ : ∃ x : UInt8, s[0]'hlt = x := ⟨_, rfl⟩
  have hxb : x.toNat < 256 := x.toNat_lt
  have hse : sl.toList.isEmpty = false := slNe
  by_cases hh : (128 : Int) ≤ x.toNat
  · go_enter Tryd.func27, Tryd.ntmps27
    go_wp2_with fail
    go_at_call 29
    refine (indexRune _ _ (by omega) (by omega)).mono ?_
    rintro e V ⟨⟨k, rfl⟩, hV⟩
    by_cases hk : 0 ≤ k
    · go_wp2_with fail
      go_ret
      exact ⟨⟨_, rfl, by omega, by omega⟩, hV⟩
    · go_wp2_with fail
      go_ret
      exact ⟨⟨_, rfl, by omega, by omega⟩, hV⟩
  · go_enter Tryd.func27, Tryd.ntmps27
    go_wp2_with fail
    go_at_call 29
    refine (indexRune _ _ (by omega) (by omega)).mono ?_
    rintro e V ⟨⟨k, rfl⟩, hV⟩
    by_cases hk : 0 ≤ k
    · go_wp2_with fail
      go_ret
      exact ⟨⟨_, rfl, by omega, by omega⟩, hV⟩
    · go_wp2_with fail
      go_ret
      exact ⟨⟨_, rfl, by omega, by omega⟩, hV⟩
theorem extLen {s : ByteArray} {i : Nat} (h : i ≤ s.size) : (s.extract 0 i).size = i ∧ (s.extract 0 i).data.toList.length = i := by
  have h1 : (s.extract 0 i).size = i := by rw [ByteArray.size_extract]; omega
  exact ⟨h1, by rw [← Lib.size_eq]; exact h1⟩
def LRel (s : ByteArray) (w : World) (v : Value) (wr : World) : Prop := ∃ i : Nat, i ≤ s.size ∧ v = .int .i64 i ∧ Below w.heap.size w wr
set_option maxRecDepth 100000 in
set_option maxHeartbeats 4000000 in
theorem liaS (s : ByteArray) (w : World) (hs : s.size ≤ 8) (h1 : s.size ≠ 1) (hT : Lib.Utf8Tabs 2 3 w) : Calls Tryd.prog 27 #[.string s, .string sl] w (LAP s w) := by
  have hse : sl.toList.isEmpty = false := slNe
  have hss : sl.size = 2 := rfl
  have hn1 : ((s.size : Int) == 1) = false := beq_eq_false_iff_ne.2 (by omega)
  have h8 : decide ((8 : Int) < (s.size : Int)) = false := decide_eq_false (by omega)
  have HT := Lib.hid hT
  have HU : ∀ w, Calls Tryd.prog 30 #[.int .i64 (s.size : Int)] w fun e w' => e = .returned (.bool false) ∧ w' = w := fun w => by have := Tryd.strings_shouldUseASCIISet (s.size : Int) w; rw [h8] at this; exact this
  clear hT h8
  go_enter Tryd.func27, Tryd.ntmps27
  go_wp2_with (go_at_call 30; refine (HU _).mono ?_; rintro e w' ⟨rfl, rfl⟩)
  go_loopw [13, 14, 15] (fun v _ _ wr => LRel s w' v wr) (fun v _ _ _ => (intOf v).toNat)
  case atStart => exact ⟨s.size, Nat.le_refl _, rfl, Below.refl _ _⟩
  case round =>
    obtain ⟨i, hi, rfl, hb⟩ := hrel
    by_cases h0 : 0 < i
    · obtain ⟨hsz, hlen⟩ := extLen hi
      obtain ⟨c1, c2⟩ := Lib.decodeLastL_width (s.extract 0 i).data.toList (by omega)
      have c3 := Lib.decodeLastL_rune (s.extract 0 i).data.toList
      have HD := Tryd.utf8_DecodeLastRuneInString (s.extract 0 i) wr (by omega) (tabsBelow HT.out hb)
      generalize (Lib.decodeLastL (s.extract 0 i).data.toList).1 = rn at c3 HD
      generalize (Lib.decodeLastL (s.extract 0 i).data.toList).2 = wd at c1 c2 HD
      rw [hlen] at c2
      clear hlen hsz
      go_wp2_with fail
      go_at_call 33
      refine HD.mono ?_
      rintro e V ⟨rfl, hV⟩
      have HBV := Lib.hid (hb.trans (hV.mono hb.size))
      clear hb hV HD
      go_wp2_with fail
      go_at_call 29
      refine (indexRune _ _ (by omega) (by omega)).mono ?_
      rintro e V2 ⟨⟨k, rfl⟩, hV2⟩
      have HBW := Lib.hid (HBV.out.trans (hV2.mono HBV.out.size))
      clear hV2
      by_cases hk : 0 ≤ k
      · go_wp2_with fail
        go_ret
        exact ⟨⟨_, rfl, by omega, by omega⟩, HBW.out⟩
      · go_wp2_with fail
        go_roundw
        case rel => exact ⟨i - wd, by omega, by congr 1; omega, HBW.out⟩
        case measure => simp [intOf]; omega
    · obtain rfl : i = 0 := by omega
      go_wp2_with fail
      go_ret
      exact ⟨⟨_, rfl, by omega, by omega⟩, hb⟩
theorem i231 : (Tryd.prog.info? 231).map (fun i => (i.zero, i.size)) = some (some (.agg (Array.replicate 256 (.bool false))), 256) := by kernel_rfl
def LRelL (s : ByteArray) (B b : Nat) (w : World) (v : Value) (wr : World) : Prop := ∃ i : Nat, i ≤ s.size ∧ v = .int .i64 ((i : Int) - 1) ∧ wr = w
set_option maxRecDepth 1000000 in
set_option maxHeartbeats 8000000 in
theorem liaL (s : ByteArray) (w : World) (hs : s.size ≤ 1048576) (h9 : 8 < s.size) : Calls Tryd.prog 27 #[.string s, .string sl] w (LAP s w) := by
  have hse : sl.toList.isEmpty = false := slNe
  have hn1 : ((s.size : Int) == 1) = false := beq_eq_false_iff_ne.2 (by omega)
  have h8 : decide ((8 : Int) < (s.size : Int)) = true := decide_eq_true (by omega)
  have HU : ∀ w, Calls Tryd.prog 30 #[.int .i64 (s.size : Int)] w fun e w' => e = .returned (.bool true) ∧ w' = w := fun w => by have := Tryd.strings_shouldUseASCIISet (s.size : Int) w; rw [h8] at this; exact this
  have hM := Tryd.strings_makeASCIISet (zero_of_info i231).1 sl w (by decide) (by
    intro j b hj
    rcases j with _ | _ | j
    · cases hj; decide
    · cases hj; decide
    · simp [sl] at hj)
  clear h8
  obtain ⟨cs, hcs⟩ : ∃ cs, cs = Lib.setCells sl.data.toList := ⟨_, rfl⟩
  have hcz : cs.size = 256 := by rw [hcs]; exact Lib.setCells_size _
  have hc1 := Lib.setCells_one sl.data.toList
  have hcA : ∀ x : UInt8, cs[x.toNat]? = some (.bool (sl.data.toList.contains x)) := fun x => by rw [hcs]; exact Lib.setCells_at _ _
  rw [← hcs] at hM hc1
  clear hcs
  have hzc : Tryd.zeroCells231 = Array.replicate 256 (.bool false) := by kernel_rfl
  have hsc : (storeCells ⟨w.heap.size + 1, 0, none⟩ cs.toList 0).run Tryd.prog ((w.alloc (.cells cs 231)).alloc (.cells (Array.replicate 256 (.bool false)) 231)) = .ok () ((w.alloc (.cells cs 231)).alloc (.cells cs 231)) := by
    have := run_storeCells_new (P := Tryd.prog) (w.alloc (.cells cs 231)) 231 (Array.replicate 256 (.bool false)) cs (by rw [hcz]; exact (zero_of_info i231).2) (by rw [hcz, Array.size_replicate]) hc1
    simpa using this
  have HB := Lib.hid (show Below w.heap.size w ((w.alloc (.cells cs 231)).alloc (.cells cs 231)) from ((Below.refl _ w).alloc (Nat.le_refl _) _).alloc (by simp) _)
  have HC := Lib.hid (show ∀ x : UInt8, ((w.alloc (.cells cs 231)).alloc (.cells cs 231)).cell? ⟨w.heap.size + 1, x.toNat, none⟩ = some (.bool (sl.data.toList.contains x)) from fun x => by
    rw [World.cell?_alloc_at _ _ _ _ (by simp), hcA])
  clear hcA hc1
  go_enter Tryd.func27, Tryd.ntmps27
  go_wp2_with (first
    | (go_at_call 30; refine (HU _).mono ?_; rintro e w' ⟨rfl, hw⟩; rw [hw])
    | (go_at_call 31; refine hM.mono ?_; rintro e w' ⟨rfl, hw⟩; rw [hw]))
  clear hM hsc hzc HU
  go_wp2_with fail
  go_loopw [8] (fun v wr => LRelL s 0 0 ((w.alloc (.cells cs 231)).alloc (.cells cs 231)) v wr) (fun v _ => (intOf v + 1).toNat)
  case atStart => exact ⟨s.size, Nat.le_refl _, rfl, rfl⟩
  case round =>
    obtain ⟨i, hi, rfl, rfl⟩ := hrel
    rcases i with _ | j
    · go_wp2_with fail
      go_ret
      exact ⟨⟨_, rfl, by omega, by omega⟩, HB.out⟩
    · have hj : j < s.size := by omega
      have ej : ((j + 1 : Nat) : Int) - 1 = (j : Int) := by omega
      rw [ej]
      obtain ⟨x, hx⟩ : ∃ x : UInt8, s[j]'hj = x := ⟨_, rfl⟩
      have hcx := HC.out x
      clear ej
      cases hin : sl.data.toList.contains x <;> rw [hin] at hcx
      · go_wp2_with (go_at_call 32; refine (Tryd.asciiSet_contains _ x _ _ hcx).mono ?_; rintro e w' ⟨rfl, hw⟩; rw [hw])
        go_roundw
        case rel => exact ⟨j, by omega, rfl, rfl⟩
        case measure => simp [intOf] <;> omega
      · go_wp2_with (go_at_call 32; refine (Tryd.asciiSet_contains _ x _ _ hcx).mono ?_; rintro e w' ⟨rfl, hw⟩; rw [hw])
        go_ret
        exact ⟨⟨_, rfl, by omega, by omega⟩, HB.out⟩
theorem lastIndexAny (s : ByteArray) (w : World) (hs : s.size ≤ 1048576) (hT : Lib.Utf8Tabs 2 3 w) : Calls Tryd.prog 27 #[.string s, .string sl] w (LAP s w) := by
  by_cases h1 : s.size = 1
  · exact lia1 s w h1
  · by_cases h9 : 8 < s.size
    · exact liaL s w hs h9
    · exact liaS s w (by omega) h1 hT
end IB
end Go.Proofs.YtoblkmnhoiodcaaDoor
