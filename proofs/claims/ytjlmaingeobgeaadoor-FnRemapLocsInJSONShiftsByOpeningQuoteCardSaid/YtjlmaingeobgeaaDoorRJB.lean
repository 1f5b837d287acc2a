/- Proved here: the contract of makeTable. Conditions as stated. -/
import Derived.Test.YtjlmaingeobgeaaDoorRJA
import Derived.WalkKit
import Derived.WalkSpells
import Derived.WalkLawsBesides
import Derived.Lib.Hide
import Derived.Lib.SliceRun
import Derived.Deep.RegionWith
import Derived.OwnWalk
import Derived.Laws.OwnMore
import Derived.Laws.BytesArg
import Derived.Carry
namespace Go.Proofs.YtjlmaingeobgeaaDoor
open Go.RowKit
set_option linter.unusedSimpArgs false
set_option linter.unusedVariables false

/-- The bytes that makeTable writes for a byte. -/
def encB (c : Nat) : List Int := if 128 ≤ c then [195, 169] else if c = 34 then [113] else if c = 92 then [98] else if c = 10 then [110] else if c = 13 then [114] else [(c : Int)]
def innL (s : ByteArray) : Nat → List Int
  | 0 => [120]
  | k + 1 => innL s k ++ encB (s.get! k).toNat
theorem encB_plain (c : Nat) : PlainT (encB c) := by
  unfold encB
  split
  · exact .two _ .nil
  · repeat' split
    all_goals exact .one _ _ (by omega) .nil
theorem encB_len (c : Nat) : (encB c).length ≤ 2 := by
  unfold encB
  repeat' split
  all_goals simp
theorem innL_plain (s : ByteArray) (k : Nat) : PlainT (innL s k) := by
  induction k with
  | zero => exact .one _ _ (by omega) .nil
  | succ k ih => exact ih.append (encB_plain _)
theorem innL_len (s : ByteArray) (k : Nat) : 1 ≤ (innL s k).length ∧ (innL s k).length ≤ 2 * k + 1 := by
  induction k with
  | zero => simp [innL]
  | succ k ih => have := encB_len (s.get! k).toNat; simp only [innL, List.length_append]; omega
theorem get_of_lt (s : ByteArray) (k : Nat) (h : k < s.size) : (s.get! k).toNat = (s[k]'h).toNat := by
  have : s.get! k = s[k]'h := by cases s with | mk d => exact getElem!_pos d k h
  rw [this]
def Own (w : World) (B : Nat) (v : Value) (out : List Int) : Prop := w.ownsRow B 5 1 v out.length (out.map (Value.int .u8))
theorem Own.shape {w : World} {B : Nat} {v : Value} {out : List Int} (h : Own w B v out) : ∃ a c, v = .slice a out.length c := ownShape h
theorem Own.row {w : World} {B : Nat} {v : Value} {out : List Int} (h : Own w B v out) : w.ownsRow B 5 1 v out.length (out.map (Value.int .u8)) := h
theorem Own.alloc {w : World} {B : Nat} {v : Value} {out : List Int} (h : Own w B v out) (o : Obj) : Own (w.alloc o) B v out := World.ownsRow.alloc h o
theorem Own.below {w w' : World} {B : Nat} {v : Value} {out : List Int} (h : Own w B v out) (hb : Below w.heap.size w w') : Own w' B v out := ownBelow h hb
theorem Own.base {w : World} {B : Nat} {v : Value} {out : List Int} (h : Own w B v out) : ∀ k, v.ownBlock = some k → B ≤ k := fun k hk => (World.ownsRow.lt h k hk).1
theorem Own.snoc {w : World} {B : Nat} {v : Value} {out : List Int} {c1 : Int} (h : w.ownsRow B 5 1 v (out.length + 1) (out.map (Value.int .u8) ++ [.int .u8 c1])) : Own w B v (out ++ [c1]) := by
  unfold Own; simpa using h
theorem Own.more {w : World} {B : Nat} {v : Value} {out more : List Int} (h : w.ownsRow B 5 1 v (out.length + more.length) (out.map (Value.int .u8) ++ more.map (Value.int .u8))) : Own w B v (out ++ more) := by
  unfold Own; simpa using h
theorem Own.cells {w : World} {B g c : Nat} {out : List Int} {n : Nat} (h : Own w B (.slice (some ⟨g, 0, none⟩) n c) out) : ∀ i, i < out.length → w.cell? ⟨g, 0 + i, none⟩ = some (.int .u8 (out.getD i 0)) := by
  intro i hi
  have := World.ownsRow.cells h (g := g) rfl i (.int .u8 (out.getD i 0)) (by simp [List.getD, hi])
  rwa [Addr.add_lit] at this
theorem info5 : (Tryd.prog.info? 5).map (fun i => (i.zero, i.size, i.bytes)) = some (some (.int .u8 0), 1, 1) := by kernel_rfl
def MR (s : ByteArray) (w : World) (v i : Value) (wr : World) : Prop :=
  ∃ (k m : Nat) (a : Option Addr) (c : Nat), i = .int .i64 k ∧ k ≤ s.size ∧ v = .slice a m c ∧ Hid (m = (innL s k).length) ∧ Hid (Own wr w.heap.size v (innL s k)) ∧ Hid (Below w.heap.size w wr)
def SR (pad : Nat) (W : World) (v i : Value) (wr : World) : Prop :=
  ∃ (k : Nat) (a : Option Addr) (c : Nat), i = .int .i64 k ∧ k ≤ pad ∧ v = .slice a k c ∧ Hid (Own wr W.heap.size v (List.replicate k 32)) ∧ Hid (Below W.heap.size W wr)

set_option maxRecDepth 100000 in
set_option maxHeartbeats 8000000 in
theorem makeTable (s : ByteArray) (pad : Nat) (w : World) (hs : s.size ≤ 65536) (hpad : pad ≤ 140000) (hT : Lib.Utf8Tabs 1 2 w) :
    Calls Tryd.prog 36 #[.string s, .int .i64 (pad : Int)] w (TBL ((pad + 1 : Nat) : Int) w) := by
  have hs1 : (s.size : Int) ≤ 65536 := by omega
  have hs0 : (0 : Int) ≤ (s.size : Int) := Int.natCast_nonneg _
  have hp1 : (pad : Int) ≤ 140000 := by omega
  have hp0 : (0 : Int) ≤ (pad : Int) := Int.natCast_nonneg _
  have HT := Lib.hid hT
  clear hT
  obtain ⟨i0, hi0, hz0, hz1, hz2⟩ := info_parts info5
  have I0 := Lib.hid hi0
  have I1 := Lib.hid hz0
  have I2 := Lib.hid hz1
  have I3 := Lib.hid hz2
  clear hi0 hz0 hz1 hz2
  go_enter Tryd.func36, Tryd.ntmps36
  go_wp2_with (with_reducible refine wpList_make_own _ (o := ⟨some 14, _, _, _, _, _⟩) rfl _ _ 45 rfl w.heap.size 5 i0 _ 1 Tryd.underlying45 I0.out I1.out I2.out .i64 .i64 _ (2 * s.size + 1) rfl rfl ?e1 ?e2 ?e3 (Nat.le_refl _) ?_)
  case e1 => (try simp); (try omega)
  case e2 => rw [I3.out]; omega
  case e3 => unfold maxLen; omega
  intro w1 hown1 hgr1
  have HO1 := Lib.hid (show Own w1 w.heap.size (.slice (some ⟨w.heap.size, 0, none⟩) 0 (2 * s.size + 1)) [] from hown1)
  have HB1 := Lib.hid (show Below w.heap.size w w1 from Below.grown (Below.refl _ _) hgr1 (Nat.le_refl _) (fun k hk => by cases hk))
  have z1 := HB1.out.size
  clear hown1 hgr1
  go_wp2_with (with_reducible refine wpList_append_own _ (o := ⟨some 17, _, _, _, _, _⟩) rfl _ _ 45 rfl w.heap.size 5 i0 (.int .u8 0) 1 1 Tryd.underlying45 I0.out I1.out I2.out I3.out rfl (by decide) _ _ _ rfl (HO1.out.alloc _).row ⟨w1.heap.size, 0, none⟩ 1 1 [.int .u8 120] rfl rfl ?c17x1 ?c17x2 ?c17x3 ?c17x4 ?c17x5 ?_)
  try (case c17x1 =>
    intro j u hj
    have hj0 : j = 0 := by rcases j with _ | j <;> simp at hj ⊢
    subst hj0
    simp at hj
    subst hj
    simp [Addr.add_lit, World.cell?_alloc_new])
  try (case c17x2 => simp [Value.oneCell'])
  try (case c17x3 => unfold maxLen; (try simp); try omega)
  try (case c17x4 => (try simp); try omega)
  try (case c17x5 => (try simp); try omega)
  intro v2 w2 hown2 hgr2 _
  obtain ⟨a2, c2, rfl⟩ := ownShape hown2
  have HO2 := Lib.hid (show Own w2 w.heap.size (.slice a2 (0 + 1) c2) (innL s 0) from hown2)
  have HB2 := Lib.hid (show Below w.heap.size w w2 from Below.grown (HB1.out.alloc HB1.out.size _) hgr2 (by simp; omega) HO1.out.base)
  clear hown2 hgr2
  go_wp2_with fail
  go_loopw [5, 6] (fun v i wr => MR s w v i wr) (fun _ i _ => s.size - (intOf i).toNat)
  case atStart => exact ⟨0, 1, a2, c2, rfl, Nat.zero_le _, rfl, Lib.hid rfl, HO2, HB2⟩
  case round =>
    obtain ⟨k, m, a, c, rfl, hk, rfl, HM, HO, HB⟩ := hrel
    clear HO1 HB1 HO2 HB2 z1
    have zb := HB.out.size
    have hm2 : m ≤ 131073 := by have := innL_len s k; rw [← HM.out] at this; omega
    have hm1 : (m : Int) ≤ 131073 := by omega
    have hm0 : (0 : Int) ≤ (m : Int) := Int.natCast_nonneg _
    by_cases hlt : k < s.size
    · obtain ⟨b0, hb0⟩ : ∃ b, b = (s.get! k).toNat := ⟨_, rfl⟩
      have HB0 := Lib.hid hb0
      have HBI := Lib.hid (show ((s[k]'hlt).toNat : Int) = (b0 : Int) from by rw [hb0, get_of_lt s k hlt])
      have hs8 : b0 < 256 := by rw [hb0]; exact (s.get! k).toNat_lt
      clear hb0
      have hcase : 128 ≤ b0 ∨ b0 = 34 ∨ b0 = 92 ∨ b0 = 10 ∨ b0 = 13 ∨ (b0 < 128 ∧ b0 ≠ 34 ∧ b0 ≠ 92 ∧ b0 ≠ 10 ∧ b0 ≠ 13) := by omega
      have HOR : wr.ownsRow w.heap.size 5 1 (.slice a m c) m ((innL s k).map (Value.int .u8)) := by have := HO.out; unfold Own at this; rw [← HM.out] at this; exact this
      have HOR := Lib.hid HOR
      rcases hcase with hc | hc | hc | hc | hc | hc
      · have t0 : (128 : Int) ≤ ((s[k]'hlt).toNat : Int) := by rw [HBI.out]; omega
        clear hs8
        have HW2 := Lib.hid (show innL s (k + 1) = innL s k ++ [195, 169] from by rw [innL, ← HB0.out]; unfold encB; rw [if_pos hc])
        go_wp2_with (with_reducible refine wpList_append_own _ (o := ⟨some 31, _, _, _, _, _⟩) rfl _ _ 45 rfl w.heap.size 5 i0 (.int .u8 0) 1 1 Tryd.underlying45 I0.out I1.out I2.out I3.out rfl (by decide) _ _ _ rfl (World.ownsRow.alloc HOR.out _) ⟨wr.heap.size, 0, none⟩ 1 1 [.int .u8 195] rfl rfl ?c31x1 ?c31x2 ?c31x3 ?c31x4 ?c31x5 ?_)
        try (case c31x1 =>
          intro j u hj
          have hj0 : j = 0 := by rcases j with _ | j <;> simp at hj ⊢
          subst hj0
          simp at hj
          subst hj
          simp [Addr.add_lit, World.cell?_alloc_new])
        try (case c31x2 => simp [Value.oneCell'])
        try (case c31x3 => unfold maxLen; (try simp); try omega)
        try (case c31x4 => (try simp); try omega)
        try (case c31x5 => (try simp); try omega)
        intro v1 W1 hown1 hgr1 _
        obtain ⟨a1, c1', rfl⟩ := ownShape hown1
        have O1 := Lib.hid (show Own W1 w.heap.size (.slice a1 (m + 1) c1') (innL s k ++ [195]) from by
          have h := hown1
          rw [HM.out] at h ⊢
          exact Own.snoc h)
        have B1 := Lib.hid (show Below w.heap.size w W1 from Below.grown (HB.out.alloc HB.out.size _) hgr1 (by simp; omega) HO.out.base)
        have HM1 := Lib.hid (show m + 1 = (innL s k ++ [195]).length from by rw [HM.out]; simp)
        have zb1 := B1.out.size
        clear hown1 hgr1
        have O1R := Lib.hid (show W1.ownsRow w.heap.size 5 1 (.slice a1 (m + 1) c1') (m + 1) ((innL s k ++ [195]).map (Value.int .u8)) from by rw [HM1.out]; have := O1.out; rw [HM1.out] at this; exact this)
        go_wp2_with (with_reducible refine wpList_append_own _ (o := ⟨some 34, _, _, _, _, _⟩) rfl _ _ 45 rfl w.heap.size 5 i0 (.int .u8 0) 1 1 Tryd.underlying45 I0.out I1.out I2.out I3.out rfl (by decide) _ _ _ rfl (World.ownsRow.alloc O1R.out _) ⟨W1.heap.size, 0, none⟩ 1 1 [.int .u8 169] rfl rfl ?c34x1 ?c34x2 ?c34x3 ?c34x4 ?c34x5 ?_)
        try (case c34x1 =>
          intro j u hj
          have hj0 : j = 0 := by rcases j with _ | j <;> simp at hj ⊢
          subst hj0
          simp at hj
          subst hj
          simp [Addr.add_lit, World.cell?_alloc_new])
        try (case c34x2 => simp [Value.oneCell'])
        try (case c34x3 => unfold maxLen; (try simp); try omega)
        try (case c34x4 => (try simp); try omega)
        try (case c34x5 => (try simp); try omega)
        intro v2 W2 hown2 hgr2 _
        obtain ⟨a2, c2', rfl⟩ := ownShape hown2
        have O2 := Lib.hid (show Own W2 w.heap.size (.slice a2 (m + 1 + 1) c2') (innL s (k + 1)) from by
          rw [HW2.out, show innL s k ++ [195, 169] = innL s k ++ [195] ++ [169] from by simp]
          have h := hown2
          rw [HM1.out] at h ⊢
          unfold Own
          simpa using h)
        have B2 := Lib.hid (show Below w.heap.size w W2 from Below.grown (B1.out.alloc B1.out.size _) hgr2 (by simp; omega) O1.out.base)
        have HM2 := Lib.hid (show m + 1 + 1 = (innL s (k + 1)).length from by rw [HW2.out, HM.out]; simp)
        clear hown2 hgr2
        go_wp2_with fail
        go_roundw
        case rel => exact ⟨k + 1, m + 1 + 1, a2, c2', by go_num, by omega, rfl, HM2, O2, B2⟩
        case measure => simp [intOf]; omega
      · have t0 : ¬ (128 : Int) ≤ ((s[k]'hlt).toNat : Int) := by rw [HBI.out]; omega
        have t1 : (((s[k]'hlt).toNat : Int) == 34) = true := by rw [HBI.out]; simp; omega
        have HC := Lib.hid hc
        clear hs8 hc
        have HW2 := Lib.hid (show innL s (k + 1) = innL s k ++ [113] from by rw [innL, ← HB0.out]; rw [HC.out]; rfl)
        go_wp2_with (with_reducible refine wpList_append_own _ (o := ⟨some 39, _, _, _, _, _⟩) rfl _ _ 45 rfl w.heap.size 5 i0 (.int .u8 0) 1 1 Tryd.underlying45 I0.out I1.out I2.out I3.out rfl (by decide) _ _ _ rfl (World.ownsRow.alloc HOR.out _) ⟨wr.heap.size, 0, none⟩ 1 1 [.int .u8 113] rfl rfl ?c39x1 ?c39x2 ?c39x3 ?c39x4 ?c39x5 ?_)
        try (case c39x1 =>
          intro j u hj
          have hj0 : j = 0 := by rcases j with _ | j <;> simp at hj ⊢
          subst hj0
          simp at hj
          subst hj
          simp [Addr.add_lit, World.cell?_alloc_new])
        try (case c39x2 => simp [Value.oneCell'])
        try (case c39x3 => unfold maxLen; (try simp); try omega)
        try (case c39x4 => (try simp); try omega)
        try (case c39x5 => (try simp); try omega)
        intro v1 W1 hown1 hgr1 _
        obtain ⟨a1, c1', rfl⟩ := ownShape hown1
        have O1 := Lib.hid (show Own W1 w.heap.size (.slice a1 (m + 1) c1') (innL s (k + 1)) from by
          rw [HW2.out]
          have h := hown1
          rw [HM.out] at h ⊢
          exact Own.snoc h)
        have B1 := Lib.hid (show Below w.heap.size w W1 from Below.grown (HB.out.alloc HB.out.size _) hgr1 (by simp; omega) HO.out.base)
        have HM1 := Lib.hid (show m + 1 = (innL s (k + 1)).length from by rw [HW2.out, HM.out]; simp)
        clear hown1 hgr1
        go_wp2_with fail
        go_roundw
        case rel => exact ⟨k + 1, m + 1, a1, c1', by go_num, by omega, rfl, HM1, O1, B1⟩
        case measure => simp [intOf]; omega
      · have t0 : ¬ (128 : Int) ≤ ((s[k]'hlt).toNat : Int) := by rw [HBI.out]; omega
        have t1 : (((s[k]'hlt).toNat : Int) == 34) = false := by rw [HBI.out]; simp; omega
        have t2 : (((s[k]'hlt).toNat : Int) == 92) = true := by rw [HBI.out]; simp; omega
        have HC := Lib.hid hc
        clear hs8 hc
        have HW2 := Lib.hid (show innL s (k + 1) = innL s k ++ [98] from by rw [innL, ← HB0.out]; rw [HC.out]; rfl)
        go_wp2_with (with_reducible refine wpList_append_own _ (o := ⟨some 44, _, _, _, _, _⟩) rfl _ _ 45 rfl w.heap.size 5 i0 (.int .u8 0) 1 1 Tryd.underlying45 I0.out I1.out I2.out I3.out rfl (by decide) _ _ _ rfl (World.ownsRow.alloc HOR.out _) ⟨wr.heap.size, 0, none⟩ 1 1 [.int .u8 98] rfl rfl ?c44x1 ?c44x2 ?c44x3 ?c44x4 ?c44x5 ?_)
        try (case c44x1 =>
          intro j u hj
          have hj0 : j = 0 := by rcases j with _ | j <;> simp at hj ⊢
          subst hj0
          simp at hj
          subst hj
          simp [Addr.add_lit, World.cell?_alloc_new])
        try (case c44x2 => simp [Value.oneCell'])
        try (case c44x3 => unfold maxLen; (try simp); try omega)
        try (case c44x4 => (try simp); try omega)
        try (case c44x5 => (try simp); try omega)
        intro v1 W1 hown1 hgr1 _
        obtain ⟨a1, c1', rfl⟩ := ownShape hown1
        have O1 := Lib.hid (show Own W1 w.heap.size (.slice a1 (m + 1) c1') (innL s (k + 1)) from by
          rw [HW2.out]
          have h := hown1
          rw [HM.out] at h ⊢
          exact Own.snoc h)
        have B1 := Lib.hid (show Below w.heap.size w W1 from Below.grown (HB.out.alloc HB.out.size _) hgr1 (by simp; omega) HO.out.base)
        have HM1 := Lib.hid (show m + 1 = (innL s (k + 1)).length from by rw [HW2.out, HM.out]; simp)
        clear hown1 hgr1
        go_wp2_with fail
        go_roundw
        case rel => exact ⟨k + 1, m + 1, a1, c1', by go_num, by omega, rfl, HM1, O1, B1⟩
        case measure => simp [intOf]; omega
      · have t0 : ¬ (128 : Int) ≤ ((s[k]'hlt).toNat : Int) := by rw [HBI.out]; omega
        have t1 : (((s[k]'hlt).toNat : Int) == 34) = false := by rw [HBI.out]; simp; omega
        have t2 : (((s[k]'hlt).toNat : Int) == 92) = false := by rw [HBI.out]; simp; omega
        have t3 : (((s[k]'hlt).toNat : Int) == 10) = true := by rw [HBI.out]; simp; omega
        have HC := Lib.hid hc
        clear hs8 hc
        have HW2 := Lib.hid (show innL s (k + 1) = innL s k ++ [110] from by rw [innL, ← HB0.out]; rw [HC.out]; rfl)
        go_wp2_with (with_reducible refine wpList_append_own _ (o := ⟨some 49, _, _, _, _, _⟩) rfl _ _ 45 rfl w.heap.size 5 i0 (.int .u8 0) 1 1 Tryd.underlying45 I0.out I1.out I2.out I3.out rfl (by decide) _ _ _ rfl (World.ownsRow.alloc HOR.out _) ⟨wr.heap.size, 0, none⟩ 1 1 [.int .u8 110] rfl rfl ?c49x1 ?c49x2 ?c49x3 ?c49x4 ?c49x5 ?_)
        try (case c49x1 =>
          intro j u hj
          have hj0 : j = 0 := by rcases j with _ | j <;> simp at hj ⊢
          subst hj0
          simp at hj
          subst hj
          simp [Addr.add_lit, World.cell?_alloc_new])
        try (case c49x2 => simp [Value.oneCell'])
        try (case c49x3 => unfold maxLen; (try simp); try omega)
        try (case c49x4 => (try simp); try omega)
        try (case c49x5 => (try simp); try omega)
        intro v1 W1 hown1 hgr1 _
        obtain ⟨a1, c1', rfl⟩ := ownShape hown1
        have O1 := Lib.hid (show Own W1 w.heap.size (.slice a1 (m + 1) c1') (innL s (k + 1)) from by
          rw [HW2.out]
          have h := hown1
          rw [HM.out] at h ⊢
          exact Own.snoc h)
        have B1 := Lib.hid (show Below w.heap.size w W1 from Below.grown (HB.out.alloc HB.out.size _) hgr1 (by simp; omega) HO.out.base)
        have HM1 := Lib.hid (show m + 1 = (innL s (k + 1)).length from by rw [HW2.out, HM.out]; simp)
        clear hown1 hgr1
        go_wp2_with fail
        go_roundw
        case rel => exact ⟨k + 1, m + 1, a1, c1', by go_num, by omega, rfl, HM1, O1, B1⟩
        case measure => simp [intOf]; omega
      · have t0 : ¬ (128 : Int) ≤ ((s[k]'hlt).toNat : Int) := by rw [HBI.out]; omega
        have t1 : (((s[k]'hlt).toNat : Int) == 34) = false := by rw [HBI.out]; simp; omega
        have t2 : (((s[k]'hlt).toNat : Int) == 92) = false := by rw [HBI.out]; simp; omega
        have t3 : (((s[k]'hlt).toNat : Int) == 10) = false := by rw [HBI.out]; simp; omega
        have t4 : (((s[k]'hlt).toNat : Int) == 13) = true := by rw [HBI.out]; simp; omega
        have HC := Lib.hid hc
        clear hs8 hc
        have HW2 := Lib.hid (show innL s (k + 1) = innL s k ++ [114] from by rw [innL, ← HB0.out]; rw [HC.out]; rfl)
        go_wp2_with (with_reducible refine wpList_append_own _ (o := ⟨some 54, _, _, _, _, _⟩) rfl _ _ 45 rfl w.heap.size 5 i0 (.int .u8 0) 1 1 Tryd.underlying45 I0.out I1.out I2.out I3.out rfl (by decide) _ _ _ rfl (World.ownsRow.alloc HOR.out _) ⟨wr.heap.size, 0, none⟩ 1 1 [.int .u8 114] rfl rfl ?c54x1 ?c54x2 ?c54x3 ?c54x4 ?c54x5 ?_)
        try (case c54x1 =>
          intro j u hj
          have hj0 : j = 0 := by rcases j with _ | j <;> simp at hj ⊢
          subst hj0
          simp at hj
          subst hj
          simp [Addr.add_lit, World.cell?_alloc_new])
        try (case c54x2 => simp [Value.oneCell'])
        try (case c54x3 => unfold maxLen; (try simp); try omega)
        try (case c54x4 => (try simp); try omega)
        try (case c54x5 => (try simp); try omega)
        intro v1 W1 hown1 hgr1 _
        obtain ⟨a1, c1', rfl⟩ := ownShape hown1
        have O1 := Lib.hid (show Own W1 w.heap.size (.slice a1 (m + 1) c1') (innL s (k + 1)) from by
          rw [HW2.out]
          have h := hown1
          rw [HM.out] at h ⊢
          exact Own.snoc h)
        have B1 := Lib.hid (show Below w.heap.size w W1 from Below.grown (HB.out.alloc HB.out.size _) hgr1 (by simp; omega) HO.out.base)
        have HM1 := Lib.hid (show m + 1 = (innL s (k + 1)).length from by rw [HW2.out, HM.out]; simp)
        clear hown1 hgr1
        go_wp2_with fail
        go_roundw
        case rel => exact ⟨k + 1, m + 1, a1, c1', by go_num, by omega, rfl, HM1, O1, B1⟩
        case measure => simp [intOf]; omega
      · have t0 : ¬ (128 : Int) ≤ ((s[k]'hlt).toNat : Int) := by rw [HBI.out]; omega
        have t1 : (((s[k]'hlt).toNat : Int) == 34) = false := by rw [HBI.out]; simp; omega
        have t2 : (((s[k]'hlt).toNat : Int) == 92) = false := by rw [HBI.out]; simp; omega
        have t3 : (((s[k]'hlt).toNat : Int) == 10) = false := by rw [HBI.out]; simp; omega
        have t4 : (((s[k]'hlt).toNat : Int) == 13) = false := by rw [HBI.out]; simp; omega
        have HC := Lib.hid hc
        clear hs8 hc
        have HW2 := Lib.hid (show innL s (k + 1) = innL s k ++ [(b0 : Int)] from by rw [innL, ← HB0.out]; unfold encB; rw [if_neg (by have := HC.out.1; omega), if_neg HC.out.2.1, if_neg HC.out.2.2.1, if_neg HC.out.2.2.2.1, if_neg HC.out.2.2.2.2])
        go_wp2_with (with_reducible refine wpList_append_own _ (o := ⟨some 58, _, _, _, _, _⟩) rfl _ _ 45 rfl w.heap.size 5 i0 (.int .u8 0) 1 1 Tryd.underlying45 I0.out I1.out I2.out I3.out rfl (by decide) _ _ _ rfl (World.ownsRow.alloc HOR.out _) ⟨wr.heap.size, 0, none⟩ 1 1 [.int .u8 ((s[k]'hlt).toNat : Int)] rfl rfl ?c58x1 ?c58x2 ?c58x3 ?c58x4 ?c58x5 ?_)
        try (case c58x1 =>
          intro j u hj
          have hj0 : j = 0 := by rcases j with _ | j <;> simp at hj ⊢
          subst hj0
          simp at hj
          subst hj
          simp [Addr.add_lit, World.cell?_alloc_new])
        try (case c58x2 => simp [Value.oneCell'])
        try (case c58x3 => unfold maxLen; (try simp); try omega)
        try (case c58x4 => (try simp); try omega)
        try (case c58x5 => (try simp); try omega)
        intro v1 W1 hown1 hgr1 _
        obtain ⟨a1, c1', rfl⟩ := ownShape hown1
        have O1 := Lib.hid (show Own W1 w.heap.size (.slice a1 (m + 1) c1') (innL s (k + 1)) from by
          rw [HW2.out]
          have h := hown1
          rw [HBI.out] at h
          rw [HM.out] at h ⊢
          exact Own.snoc h)
        have B1 := Lib.hid (show Below w.heap.size w W1 from Below.grown (HB.out.alloc HB.out.size _) hgr1 (by simp; omega) HO.out.base)
        have HM1 := Lib.hid (show m + 1 = (innL s (k + 1)).length from by rw [HW2.out, HM.out]; simp)
        clear hown1 hgr1
        go_wp2_with fail
        go_roundw
        case rel => exact ⟨k + 1, m + 1, a1, c1', by go_num, by omega, rfl, HM1, O1, B1⟩
        case measure => simp [intOf]; omega
    · obtain rfl : k = s.size := by omega
      have HOE := Lib.hid (show wr.ownsRow w.heap.size 5 1 (.slice a m c) m ((innL s s.size).map (Value.int .u8)) from by have := HO.out; unfold Own at this; rw [← HM.out] at this; exact this)
      go_wp2_with (with_reducible refine wpList_make_own _ (o := ⟨some 64, _, _, _, _, _⟩) rfl _ _ 45 rfl wr.heap.size 5 i0 _ 1 Tryd.underlying45 I0.out I1.out I2.out .i64 .i64 _ (pad + m + 2) rfl rfl ?f1 ?f2 ?f3 (Nat.le_refl _) ?_)
      case f1 => (try simp); (try omega)
      case f2 => rw [I3.out]; omega
      case f3 => unfold maxLen; omega
      intro w3 hown3 hgr3
      have HO3 := Lib.hid (show Own w3 wr.heap.size (.slice (some ⟨wr.heap.size, 0, none⟩) 0 (pad + m + 2)) [] from hown3)
      have HB3 := Lib.hid (show Below wr.heap.size wr w3 from Below.grown (Below.refl _ _) hgr3 (Nat.le_refl _) (fun k hk => by cases hk))
      clear hown3 hgr3
      go_wp2_with fail
      go_loopw [8, 9] (fun v i wq => SR pad wr v i wq) (fun _ i _ => pad - (intOf i).toNat)
      case atStart => exact ⟨0, _, _, rfl, Nat.zero_le _, rfl, HO3, HB3⟩
      case round =>
        rename World => wq
        obtain ⟨j, a8, c8, rfl, hj, rfl, HO8, HB8⟩ := hrel
        clear HO3 HB3
        have zb8 := HB8.out.size
        have hj1 : (j : Int) ≤ 140000 := by omega
        have hj0 : (0 : Int) ≤ (j : Int) := Int.natCast_nonneg _
        have HOR8 := Lib.hid (show wq.ownsRow wr.heap.size 5 1 (.slice a8 j c8) j ((List.replicate j 32).map (Value.int .u8)) from by have := HO8.out; unfold Own at this; rw [List.length_replicate] at this; exact this)
        by_cases hlj : j < pad
        · have hlj1 : (j : Int) < (pad : Int) := by omega
          go_wp2_with (with_reducible refine wpList_append_own _ (o := ⟨some 72, _, _, _, _, _⟩) rfl _ _ 45 rfl wr.heap.size 5 i0 (.int .u8 0) 1 1 Tryd.underlying45 I0.out I1.out I2.out I3.out rfl (by decide) _ _ _ rfl (World.ownsRow.alloc HOR8.out _) ⟨wq.heap.size, 0, none⟩ 1 1 [.int .u8 32] rfl rfl ?c72x1 ?c72x2 ?c72x3 ?c72x4 ?c72x5 ?_)
          try (case c72x1 =>
            intro j u hj
            have hj0 : j = 0 := by rcases j with _ | j <;> simp at hj ⊢
            subst hj0
            simp at hj
            subst hj
            simp [Addr.add_lit, World.cell?_alloc_new])
          try (case c72x2 => simp [Value.oneCell'])
          try (case c72x3 => unfold maxLen; (try simp); try omega)
          try (case c72x4 => (try simp); try omega)
          try (case c72x5 => (try simp); try omega)
          intro v9 w9 hown9 hgr9 _
          obtain ⟨a9, c9, rfl⟩ := ownShape hown9
          have HO9 := Lib.hid (show Own w9 wr.heap.size (.slice a9 (j + 1) c9) (List.replicate (j + 1) 32) from by
            unfold Own
            rw [List.length_replicate, List.replicate_succ', List.map_append, List.map_replicate]
            exact hown9)
          have HB9 := Lib.hid (show Below wr.heap.size wr w9 from Below.grown (HB8.out.alloc HB8.out.size _) hgr9 (by simp; omega) HO8.out.base)
          clear hown9 hgr9
          go_wp2_with fail
          go_roundw
          case rel => exact ⟨j + 1, a9, c9, by go_num, by omega, rfl, HO9, HB9⟩
          case measure => simp [intOf]; omega
        · obtain rfl : j = pad := by omega
          go_wp2_with (with_reducible refine wpList_append_own _ (o := ⟨some 75, _, _, _, _, _⟩) rfl _ _ 45 rfl wr.heap.size 5 i0 (.int .u8 0) 1 1 Tryd.underlying45 I0.out I1.out I2.out I3.out rfl (by decide) _ _ _ rfl (World.ownsRow.alloc HOR8.out _) ⟨wq.heap.size, 0, none⟩ 1 1 [.int .u8 34] rfl rfl ?c75x1 ?c75x2 ?c75x3 ?c75x4 ?c75x5 ?_)
          try (case c75x1 =>
            intro j u hj
            have hj0 : j = 0 := by rcases j with _ | j <;> simp at hj ⊢
            subst hj0
            simp at hj
            subst hj
            simp [Addr.add_lit, World.cell?_alloc_new])
          try (case c75x2 => simp [Value.oneCell'])
          try (case c75x3 => unfold maxLen; (try simp); try omega)
          try (case c75x4 => (try simp); try omega)
          try (case c75x5 => (try simp); try omega)
          intro v9 w9 hown9 hgr9 _
          obtain ⟨a9, c9, rfl⟩ := ownShape hown9
          have HO9 := Lib.hid (show w9.ownsRow wr.heap.size 5 1 (.slice a9 (j + 1) c9) (j + 1) ((List.replicate j (32 : Int) ++ [34]).map (Value.int .u8)) from by rw [List.map_append, List.map_replicate]; exact hown9)
          have HB9 := Lib.hid (show Below wr.heap.size wr w9 from Below.grown (HB8.out.alloc HB8.out.size _) hgr9 (by simp; omega) HO8.out.base)
          clear hown9 hgr9
          have zb9 := HB9.out.size
          have HI9 := Lib.hid (ownBelow HOE.out HB9.out)
          have hm9 : 0 < m := by have := innL_len s s.size; rw [← HM.out] at this; omega
          obtain ⟨gi, ci, hgi, hgb, hgc, hgm, csi, hgat⟩ := ownFull HI9.out hm9
          simp only [Value.slice.injEq] at hgi
          obtain ⟨rfl, _, rfl⟩ := hgi
          clear hgat
          go_wp2_with (with_reducible refine wpList_append_own _ (o := ⟨some 78, _, _, _, _, _⟩) rfl _ _ 45 rfl wr.heap.size 5 i0 (.int .u8 0) 1 1 Tryd.underlying45 I0.out I1.out I2.out I3.out rfl (by decide) (.slice a9 (j + 1) c9) (j + 1) ((List.replicate j (32 : Int) ++ [34]).map (Value.int .u8)) rfl HO9.out ⟨gi, 0, none⟩ m c ((innL s s.size).map (Value.int .u8)) rfl ?d0 ?d1 ?d2 ?d3 ?d4 ?d5 ?_)
          case d0 => rw [List.length_map, ← HM.out, Nat.mul_one]
          case d1 => exact fun j u hu => World.ownsRow.cells HI9.out rfl j u hu
          case d2 =>
            intro u hu
            obtain ⟨x, _, rfl⟩ := List.mem_map.1 hu
            rfl
          case d3 => unfold maxLen; omega
          case d4 => omega
          case d5 => omega
          intro v10 w10 hown10 hgr10 _
          obtain ⟨a10, c10, rfl⟩ := ownShape hown10
          have HB10 := Lib.hid (show Below wr.heap.size wr w10 from Below.grown HB9.out hgr10 (by omega) (fun k hk => (World.ownsRow.lt HO9.out k hk).1))
          have HO10 := Lib.hid (show w10.ownsRow wr.heap.size 5 1 (.slice a10 (j + 1 + m) c10) (j + 1 + m) ((List.replicate j (32 : Int) ++ [34] ++ innL s s.size).map (Value.int .u8)) from by rw [List.map_append]; have h := hown10; simpa using h)
          clear hown10 hgr10
          have zb10 := HB10.out.size
          go_wp2_with (with_reducible refine wpList_append_own _ (o := ⟨some 81, _, _, _, _, _⟩) rfl _ _ 45 rfl wr.heap.size 5 i0 (.int .u8 0) 1 1 Tryd.underlying45 I0.out I1.out I2.out I3.out rfl (by decide) _ _ _ rfl (World.ownsRow.alloc HO10.out _) ⟨w10.heap.size, 0, none⟩ 1 1 [.int .u8 34] rfl rfl ?c81x1 ?c81x2 ?c81x3 ?c81x4 ?c81x5 ?_)
          try (case c81x1 =>
            intro j u hj
            have hj0 : j = 0 := by rcases j with _ | j <;> simp at hj ⊢
            subst hj0
            simp at hj
            subst hj
            simp [Addr.add_lit, World.cell?_alloc_new])
          try (case c81x2 => simp [Value.oneCell'])
          try (case c81x3 => unfold maxLen; (try simp); try omega)
          try (case c81x4 => (try simp); try omega)
          try (case c81x5 => (try simp); try omega)
          intro v11 w11 hown11 hgr11 _
          obtain ⟨a11, c11, rfl⟩ := ownShape hown11
          have HB11 := Lib.hid (show Below wr.heap.size wr w11 from Below.grown (HB10.out.alloc HB10.out.size _) hgr11 (by simp; omega) (fun k hk => (World.ownsRow.lt HO10.out k hk).1))
          have HO11 := Lib.hid (show Own w11 wr.heap.size (.slice a11 (j + 1 + m + 1) c11) (outerL j (innL s s.size)) from by
            unfold Own
            rw [show outerL j (innL s s.size) = List.replicate j (32 : Int) ++ [34] ++ innL s s.size ++ [34] from by simp [outerL]]
            have e1 : (List.replicate j (32 : Int) ++ [34] ++ innL s s.size ++ [34] : List Int).length = j + 1 + m + 1 := by simp [HM.out]; omega
            rw [e1, List.map_append]
            have h := hown11
            simpa using h)
          clear hown11 hgr11
          have hlo : (outerL j (innL s s.size)).length = j + 1 + m + 1 := by simp [outerL, HM.out]; omega
          have HO11R : w11.ownsRow wr.heap.size 5 1 (.slice a11 (j + 1 + m + 1) c11) (j + 1 + m + 1) ((outerL j (innL s s.size)).map (Value.int .u8)) := by
            have := HO11.out
            unfold Own at this
            rw [hlo] at this
            exact this
          obtain ⟨go, co, hgo, _, _, _, cso, hgat⟩ := ownFull HO11R (by omega)
          simp only [Value.slice.injEq] at hgo
          obtain ⟨rfl, _, rfl⟩ := hgo
          clear hgat HO11R
          have HI11 := Lib.hid (ownBelow HOE.out HB11.out)
          have HOI := Lib.hid (show Own w11 w.heap.size (.slice (some ⟨gi, 0, none⟩) m c) (innL s s.size) from by unfold Own; rw [← HM.out]; exact HI11.out)
          have hcv1 : (convert 45 9 (.slice (some ⟨go, 0, none⟩) (j + 1 + m + 1) c11)).run Tryd.prog w11 = .ok (.string (strOfNums (outerL j (innL s s.size)))) w11 := run_convert_bytes_arg w11 45 5 Tryd.underlying45 Tryd.underlying5 go 0 _ _ _ hlo (fun i hi => HO11.out.cells i (by rw [hlo]; exact hi)) 9 Tryd.underlying9
          have hcv2 : (convert 45 9 (.slice (some ⟨gi, 0, none⟩) m c)).run Tryd.prog w11 = .ok (.string (strOfNums (innL s s.size))) w11 := run_convert_bytes_arg w11 45 5 Tryd.underlying45 Tryd.underlying5 gi 0 _ _ _ HM.out.symm (fun i hi => HOI.out.cells i (by rw [← HM.out]; exact hi)) 9 Tryd.underlying9
          have HW11 := Lib.hid (show Below w.heap.size w w11 from HB.out.trans (HB11.out.mono HB.out.size))
          have HML := Lib.hid (innL_len s s.size)
          clear hlo
          go_wp2_with fail
          refine (genTable (innL s s.size) j w11 (innL_plain _ _) HML.out.1 (by have := HML.out.2; omega) (by omega) (tabsBelow HT.out HW11.out)).mono ?_
          rintro e w12 ⟨g, cap, rfl, hown, hb⟩
          have HFIN := Lib.hid (show TBL ((j + 1 : Nat) : Int) w (.returned (.slice (some ⟨g, 0, none⟩) 1 cap)) w12 from ⟨g, cap, rfl, ownLow hown HW11.out.size, HW11.out.trans (hb.mono HW11.out.size)⟩)
          clear hown hb hcv1 hcv2
          go_wp2_with fail
          go_ret
          exact HFIN.out
end Go.Proofs.YtjlmaingeobgeaaDoor
