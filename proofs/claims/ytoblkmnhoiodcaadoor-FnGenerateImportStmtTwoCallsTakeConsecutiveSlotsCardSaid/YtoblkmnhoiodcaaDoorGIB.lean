/- Proved here: strings.IndexRune and strings.LastIndexAny on the text of the two bytes 47, 92: they come back; LastIndexAny's answer lies between -1 and the last index. Condition: the decoder's tables, the string's length, as stated. -/
import Derived.Test.YtoblkmnhoiodcaaDoorBase
import Derived.Test.YtoblkmnhoiodcaaDoorShelf
import Derived.WalkKit
import Derived.WalkSpells
import Derived.WalkLawsBesides
import Derived.Lib.Hide
import Derived.Lib.TrimU
import Derived.Laws.Cover4
import Derived.Laws.RangeString
import Derived.Laws.RangeAny
import Derived.Laws.Runes
import Derived.Lib.OthersKept
import Derived.BigQuiet
import Derived.WalkMore
namespace Go.Proofs.YtoblkmnhoiodcaaDoor
namespace IB
open Go.RowKit
set_option linter.unusedSimpArgs false
set_option linter.unusedVariables false

def sl : ByteArray := ⟨#[47, 92]⟩
theorem enc_two {r : Int} (h : 128 ≤ r) : 2 ≤ (Utf8.encode r).size ∧ ∀ i (hi : i < (Utf8.encode r).size), i = (Utf8.encode r).size - 1 → 128 ≤ ((Utf8.encode r)[i]'hi).toNat := by
  have key : ∀ e : ByteArray, Utf8.encode r = e → 2 ≤ e.size ∧ ∀ i (hi : i < e.size), i = e.size - 1 → 128 ≤ (e[i]'hi).toNat := by
    intro e he
    unfold Utf8.encode at he
    simp only at he
    have hc : 128 ≤ (if Utf8.valid r then r.toNat else Utf8.runeError) := by split <;> (try unfold Utf8.runeError) <;> omega
    generalize (if Utf8.valid r then r.toNat else Utf8.runeError) = c at he hc
    have e0 : ∀ x : Nat, 128 ≤ (UInt8.ofNat (128 + x % 64)).toNat := by
      intro x
      rw [UInt8.toNat_ofNat']
      omega
    split at he
    · omega
    · split at he
      · subst he
        refine ⟨by show 2 ≤ _; simp [ByteArray.size], fun i hi hj => ?_⟩
        have : i = 1 := hj
        subst this
        exact e0 c
      · split at he
        · subst he
          refine ⟨by show 2 ≤ _; simp [ByteArray.size], fun i hi hj => ?_⟩
          have : i = 2 := hj
          subst this
          exact e0 c
        · subst he
          refine ⟨by show 2 ≤ _; simp [ByteArray.size], fun i hi hj => ?_⟩
          have : i = 3 := hj
          subst this
          exact e0 c
  exact key _ rfl
theorem iterPos_of {w : World} {k pos : Nat} {s : ByteArray} (hk : w.heap[k]? = some (.stringIter s pos)) : w.iterPos k = pos := by simp [World.iterPos, hk]
def RRel (w wr : World) : Prop := ∃ pos : Nat, pos ≤ 2 ∧ wr.heap[w.heap.size]? = some (.stringIter sl pos) ∧ Below w.heap.size w wr
def IRP (w : World) (e : Ending) (w' : World) : Prop := (∃ k : Int, e = .returned (.int .i64 k)) ∧ Below w.heap.size w w'
set_option maxRecDepth 100000 in
set_option maxHeartbeats 4000000 in
theorem indexRune (r : Int) (w : World) (h0 : 0 ≤ r) (h1 : r ≤ 1114111) : Calls Tryd.prog 29 #[.string sl, .int .i32 r] w (IRP w) := by
  by_cases ha : r < 128
  · exact (Tryd.strings_IndexRune_ascii sl r w h0 ha).mono (by rintro e w' ⟨rfl, rfl⟩; exact ⟨⟨_, rfl⟩, Below.refl _ _⟩)
  · have g1 : ¬ r < 128 := ha
    by_cases hf : r = 65533
    · subst hf
      go_enter Tryd.func29, Tryd.ntmps29
      go_wp2_with fail
      go_loopw [5, 6] (fun _ _ wr => RRel w wr) (fun _ _ wr => 2 - wr.iterPos w.heap.size)
      case atStart => exact ⟨0, by omega, World.iter_heap w sl 0, (Below.refl _ w).alloc (Nat.le_refl _) _⟩
      case round =>
        obtain ⟨pos, hps, hk, hb⟩ := hrel
        have MU := Lib.hid (iterPos_of hk)
        by_cases hp : pos < 2
        · obtain ⟨x, hx, hx1⟩ : ∃ x : Nat, x < 128 ∧ (sl[pos]'hp).toNat = x := by
            rcases (show pos = 0 ∨ pos = 1 by omega) with rfl | rfl
            · exact ⟨47, by omega, rfl⟩
            · exact ⟨92, by omega, rfl⟩
          have hnext : ∀ ty, (Instr.next (.pointer (some ⟨w.heap.size, 0, none⟩)) true ty).run Tryd.prog wr = .ok (.tuple #[.bool true, .int .i64 pos, .int .i32 x]) (wr.iterAt w.heap.size sl (pos + 1)) := fun ty => by
            rw [Lib.run_next_ascii_at wr w.heap.size sl pos ty hk hp (by omega), hx1]
          have IT := Lib.hid (Lib.iterAt_heap wr w.heap.size sl pos (pos + 1) hk)
          have WB := Lib.hid (Lib.below_iterAt hb (Nat.le_refl _) sl (pos + 1))
          have g5 : ((x : Int) == 65533) = false := beq_eq_false_iff_ne.2 (by omega)
          clear hk hb hx1
          go_wp2_with fail
          go_roundw
          case rel => exact ⟨pos + 1, by omega, IT.out, WB.out⟩
          case measure => rw [MU.out, iterPos_of IT.out]; omega
        · have hnext : ∀ ty, (Instr.next (.pointer (some ⟨w.heap.size, 0, none⟩)) true ty).run Tryd.prog wr = .ok (.tuple #[.bool false]) wr := fun ty => Lib.run_next_end_at wr w.heap.size sl pos ty hk hp
          go_wp2_with fail
          go_ret
          exact ⟨⟨_, rfl⟩, hb⟩
    · have g2 : (r == 65533) = false := beq_eq_false_iff_ne.2 hf
      have HE := Lib.hid (enc_two (show 128 ≤ r by omega))
      have HL := Lib.hid (encode_size_le r)
      go_enter Tryd.func29, Tryd.ntmps29
      obtain ⟨bv, hbv⟩ : ∃ b, b = Lib.validRune r := ⟨_, rfl⟩
      have HV : ∀ w, Calls Tryd.prog 36 #[.int .i32 r] w fun e w' => e = .returned (.bool bv) ∧ w' = w := fun w => by rw [hbv]; exact Tryd.utf8_ValidRune r w
      clear hbv
      cases bv
      · go_wp2_with (go_at_call 36; refine (HV _).mono ?_; rintro e w' ⟨rfl, rfl⟩)
        go_ret
        exact ⟨⟨_, rfl⟩, Below.refl _ _⟩
      · obtain ⟨he1, he2⟩ := HE.out
        obtain ⟨m, hm⟩ : ∃ m, (Utf8.encode r).size = m + 2 := ⟨(Utf8.encode r).size - 2, by omega⟩
        have hm2 : m ≤ 2 := by have := HL.out; omega
        have hlt : m + 1 < (Utf8.encode r).size := by omega
        obtain ⟨x, hx, hx1⟩ : ∃ x : Nat, 128 ≤ x ∧ ((Utf8.encode r)[m+1]'hlt).toNat = x := ⟨_, he2 (m+1) hlt (by omega), rfl⟩
        clear he1 he2 HL HE
        have hs1 : (sl[1]'(by decide)).toNat = 92 := rfl
        have hss : sl.size = 2 := rfl
        have hw2 : IntKind.i64.wrap 2 = 2 := by decide
        rcases (show m = 0 ∨ m = 1 ∨ m = 2 by omega) with rfl | rfl | rfl
        · have hm' : (Utf8.encode r).size = 2 := hm
          have hx1' : ((Utf8.encode r)[1]'(by omega)).toNat = x := hx1
          have g7 : ((92 : Int) == (x : Int)) = false := beq_eq_false_iff_ne.2 (by omega)
          have HX : ∀ w, Calls Tryd.prog 35 #[.string ByteArray.empty, .int .u8 (x : Int)] w fun e w' => e = .returned (.int .i64 (-1)) ∧ w' = w := fun w => Tryd.strings_IndexByte ByteArray.empty (x : Int) w
          clear hx1 hm
          go_wp2_with (go_at_call 36; refine (HV _).mono ?_; rintro e w' ⟨rfl, rfl⟩)
          go_step3
          go_wp2_with fail
          go_loopw [9, 10, 11, 12] (fun v9 v10 v11 v12 wr => v9 = .int .i64 1 ∧ v10 = .int .i64 0 ∧ wr = w') (fun _ _ _ _ _ => 0)
          case atStart => exact ⟨rfl, rfl, rfl⟩
          case round =>
            obtain ⟨rfl, rfl, rfl⟩ := hrel
            go_wp2_with fail
            go_step3
            go_wp2_with fail
            go_region
            all_goals
              go_wp2_with fail
              go_quiet ((first | (go_at_call 35; exact (HX _).mono fun _ _ h => ⟨h.1, _, h.2⟩)))
              all_goals
                go_wp2_with fail
                try rw [Exit.noGoto_ret]
                go_ret
                exact ⟨⟨_, rfl⟩, below_drewN (Below.refl _ _) _⟩
        · have hm' : (Utf8.encode r).size = 3 := hm
          clear hx1 hm
          go_wp2_with (go_at_call 36; refine (HV _).mono ?_; rintro e w' ⟨rfl, rfl⟩)
          go_step3
          go_wp2_with fail
          go_loopw [9, 10, 11, 12] (fun v9 v10 v11 v12 wr => v9 = .int .i64 2 ∧ v10 = .int .i64 0 ∧ wr = w') (fun _ _ _ _ _ => 0)
          case atStart => exact ⟨rfl, rfl, rfl⟩
          case round =>
            obtain ⟨rfl, rfl, rfl⟩ := hrel
            go_wp2_with fail
            try rw [Exit.noGoto_ret]
            go_ret
            exact ⟨⟨_, rfl⟩, Below.refl _ _⟩
        · have hm' : (Utf8.encode r).size = 4 := hm
          clear hx1 hm
          go_wp2_with (go_at_call 36; refine (HV _).mono ?_; rintro e w' ⟨rfl, rfl⟩)
          go_step3
          go_wp2_with fail
          go_loopw [9, 10, 11, 12] (fun v9 v10 v11 v12 wr => v9 = .int .i64 3 ∧ v10 = .int .i64 0 ∧ wr = w') (fun _ _ _ _ _ => 0)
          case atStart => exact ⟨rfl, rfl, rfl⟩
          case round =>
            obtain ⟨rfl, rfl, rfl⟩ := hrel
            go_wp2_with fail
            try rw [Exit.noGoto_ret]
            go_ret
            exact ⟨⟨_, rfl⟩, Below.refl _ _⟩
end IB
end Go.Proofs.YtoblkmnhoiodcaaDoor
