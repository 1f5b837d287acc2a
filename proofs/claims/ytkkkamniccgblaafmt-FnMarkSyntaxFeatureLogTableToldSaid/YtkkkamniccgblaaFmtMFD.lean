/- Proved here: a rune of two bytes and more, decoded forwards, is what is decoded backwards behind it. Plain law. -/
import Derived.Shelf.Unicode.DecodeLast
import Derived.Lib.TrimU
import Derived.Lib.RuneCountTail
namespace Go.Proofs.YtkkkamniccgblaaFmt
open Go.Lib
set_option linter.unusedVariables false
set_option linter.unusedSimpArgs false
namespace MF
theorem decodeN_two (n b0 b1 b2 b3 : Nat) (h : 2 ≤ (decodeN n b0 b1 b2 b3).2) :
    ((decodeN n b0 b1 b2 b3).2 = 2 ∧ b0 / 32 = 6 ∧ 1 < n ∧ b1 / 64 = 2 ∧ ∀ c2 c3, decodeN 2 b0 b1 c2 c3 = decodeN n b0 b1 b2 b3) ∨
    ((decodeN n b0 b1 b2 b3).2 = 3 ∧ b0 / 16 = 14 ∧ 2 < n ∧ b1 / 64 = 2 ∧ b2 / 64 = 2 ∧ ∀ c3, decodeN 3 b0 b1 b2 c3 = decodeN n b0 b1 b2 b3) ∨
    ((decodeN n b0 b1 b2 b3).2 = 4 ∧ b0 / 8 = 30 ∧ 3 < n ∧ b1 / 64 = 2 ∧ b2 / 64 = 2 ∧ b3 / 64 = 2 ∧ decodeN 4 b0 b1 b2 b3 = decodeN n b0 b1 b2 b3) := by
  by_cases h1 : b0 < 128
  · simp [decodeN, h1] at h
  by_cases h2 : b0 / 32 = 6 ∧ (1 < n ∧ b1 / 64 = 2)
  · have e : ∀ m c2 c3, 1 < m → decodeN m b0 b1 c2 c3 = (if b0 % 32 * 64 + b1 % 64 ≥ 128 then (b0 % 32 * 64 + b1 % 64, 2) else (65533, 1)) := by
      intro m c2 c3 hm
      unfold decodeN
      rw [if_neg h1, if_pos ⟨h2.1, hm, h2.2.2⟩]
    rw [e n b2 b3 h2.2.1] at h ⊢
    split at h
    · rename_i hc
      exact .inl ⟨by rw [if_pos hc], h2.1, h2.2.1, h2.2.2, fun c2 c3 => e 2 c2 c3 (by omega)⟩
    · simp at h
  by_cases h3 : b0 / 16 = 14 ∧ (1 < n ∧ b1 / 64 = 2) ∧ (2 < n ∧ b2 / 64 = 2)
  · have e : ∀ m c3, 2 < m → decodeN m b0 b1 b2 c3 = (if b0 % 16 * 4096 + b1 % 64 * 64 + b2 % 64 ≥ 2048 ∧ (b0 % 16 * 4096 + b1 % 64 * 64 + b2 % 64 < 55296 ∨ (57344 ≤ b0 % 16 * 4096 + b1 % 64 * 64 + b2 % 64 ∧ b0 % 16 * 4096 + b1 % 64 * 64 + b2 % 64 ≤ 1114111)) then (b0 % 16 * 4096 + b1 % 64 * 64 + b2 % 64, 3) else (65533, 1)) := by
      intro m c3 hm
      unfold decodeN
      rw [if_neg h1, if_neg (by omega), if_pos ⟨h3.1, ⟨by omega, h3.2.1.2⟩, hm, h3.2.2.2⟩]
    rw [e n b3 h3.2.2.1] at h ⊢
    split at h
    · rename_i hc
      exact .inr (.inl ⟨by rw [if_pos hc], h3.1, h3.2.2.1, h3.2.1.2, h3.2.2.2, fun c3 => e 3 c3 (by omega)⟩)
    · simp at h
  by_cases h4 : b0 / 8 = 30 ∧ (1 < n ∧ b1 / 64 = 2) ∧ (2 < n ∧ b2 / 64 = 2) ∧ (3 < n ∧ b3 / 64 = 2)
  · have e : ∀ m, 3 < m → decodeN m b0 b1 b2 b3 = (if b0 % 8 * 262144 + b1 % 64 * 4096 + b2 % 64 * 64 + b3 % 64 ≥ 65536 ∧ (b0 % 8 * 262144 + b1 % 64 * 4096 + b2 % 64 * 64 + b3 % 64 < 55296 ∨ (57344 ≤ b0 % 8 * 262144 + b1 % 64 * 4096 + b2 % 64 * 64 + b3 % 64 ∧ b0 % 8 * 262144 + b1 % 64 * 4096 + b2 % 64 * 64 + b3 % 64 ≤ 1114111)) then (b0 % 8 * 262144 + b1 % 64 * 4096 + b2 % 64 * 64 + b3 % 64, 4) else (65533, 1)) := by
      intro m hm
      unfold decodeN
      rw [if_neg h1, if_neg (by omega), if_neg (by omega), if_pos ⟨h4.1, ⟨by omega, h4.2.1.2⟩, ⟨by omega, h4.2.2.1.2⟩, hm, h4.2.2.2.2⟩]
    rw [e n h4.2.2.2.1] at h ⊢
    split at h
    · rename_i hc
      exact .inr (.inr ⟨by rw [if_pos hc], h4.1, h4.2.2.2.1, h4.2.1.2, h4.2.2.1.2, h4.2.2.2.2, e 4 (by omega)⟩)
    · simp at h
  · unfold decodeN at h
    rw [if_neg h1, if_neg h2, if_neg h3, if_neg h4] at h
    simp at h
theorem get0 (s : ByteArray) (e i : Nat) (he : e ≤ s.size) (hi : i < e) : (s.extract 0 e).get! i = s.get! i := by
  rw [← getD_get!, ← getD_get!]
  have h1 : (s.extract 0 e).data.toList = s.data.toList.take e := by
    have := extract_eq s 0 e
    rw [this]; simp
  rw [h1]
  simp [List.getD, List.getElem?_take, hi]
theorem lastL_of (t : ByteArray) (j : Nat) (hjt : j < t.size) (hl : lastStart t.data.toList = j) (hhi : 128 ≤ (t.get! (t.size - 1)).toNat) (hw : j + (Utf8.decode t j).2 = t.size) : decodeLastL t.data.toList = Utf8.decode t j := by
  rw [decodeLastL_eq t (by omega) hhi, hl]
  unfold lastOf
  have e : decodeGo (t.extract j t.size) = Utf8.decode t j := by
    unfold decodeGo
    rw [if_neg (by rw [tail_size]; omega), tail_decode, Nat.add_zero]
  rw [e, if_pos hw]
theorem last_first (s : ByteArray) (j : Nat) (hj : j < s.size) (hw : 2 ≤ (Utf8.decode s j).2) :
    j + (Utf8.decode s j).2 ≤ s.size ∧ decodeLastL (s.extract 0 (j + (Utf8.decode s j).2)).data.toList = Utf8.decode s j := by
  rw [decode_at] at hw ⊢
  rcases decodeN_two _ _ _ _ _ hw with ⟨e2, h0, hn, h1, hd⟩ | ⟨e2, h0, hn, h1, h2, hd⟩ | ⟨e2, h0, hn, h1, h2, h3, hd⟩
  · rw [e2]
    refine ⟨by omega, ?_⟩
    obtain ⟨t, ht⟩ : ∃ t, t = s.extract 0 (j + 2) := ⟨_, rfl⟩
    have hs : t.size = j + 2 := by rw [ht]; simp; omega
    have g : ∀ i, i < j + 2 → t.get! i = s.get! i := fun i hi => by rw [ht]; exact get0 s _ i (by omega) hi
    have hD : Utf8.decode t j = decodeN (s.size - j) (s.get! j).toNat (s.get! (j + 1)).toNat (s.get! (j + 2)).toNat (s.get! (j + 3)).toNat := by
      rw [decode_at, hs, show j + 2 - j = 2 by omega, g j (by omega), g (j + 1) (by omega)]; exact hd _ _
    rw [← ht, ← hD]
    refine lastL_of t j (by omega) (lastStart_at2 _ j (by rw [← size_eq]; exact hs) ?_) ?_ ?_
    · rw [getD_get!, g j (by omega)]; unfold runeStartB; rw [bne_iff_ne]; omega
    · rw [hs, show j + 2 - 1 = j + 1 by omega, g (j + 1) (by omega)]; omega
    · rw [hD, e2, hs]
  · rw [e2]
    refine ⟨by omega, ?_⟩
    obtain ⟨t, ht⟩ : ∃ t, t = s.extract 0 (j + 3) := ⟨_, rfl⟩
    have hs : t.size = j + 3 := by rw [ht]; simp; omega
    have g : ∀ i, i < j + 3 → t.get! i = s.get! i := fun i hi => by rw [ht]; exact get0 s _ i (by omega) hi
    have hD : Utf8.decode t j = decodeN (s.size - j) (s.get! j).toNat (s.get! (j + 1)).toNat (s.get! (j + 2)).toNat (s.get! (j + 3)).toNat := by
      rw [decode_at, hs, show j + 3 - j = 3 by omega, g j (by omega), g (j + 1) (by omega), g (j + 2) (by omega)]; exact hd _
    rw [← ht, ← hD]
    refine lastL_of t j (by omega) (lastStart_at3 _ j (by rw [← size_eq]; exact hs) ?_ ?_) ?_ ?_
    · rw [getD_get!, g (j + 1) (by omega)]; unfold runeStartB; simp [h1]
    · rw [getD_get!, g j (by omega)]; unfold runeStartB; rw [bne_iff_ne]; omega
    · rw [hs, show j + 3 - 1 = j + 2 by omega, g (j + 2) (by omega)]; omega
    · rw [hD, e2, hs]
  · rw [e2]
    refine ⟨by omega, ?_⟩
    obtain ⟨t, ht⟩ : ∃ t, t = s.extract 0 (j + 4) := ⟨_, rfl⟩
    have hs : t.size = j + 4 := by rw [ht]; simp; omega
    have g : ∀ i, i < j + 4 → t.get! i = s.get! i := fun i hi => by rw [ht]; exact get0 s _ i (by omega) hi
    have hD : Utf8.decode t j = decodeN (s.size - j) (s.get! j).toNat (s.get! (j + 1)).toNat (s.get! (j + 2)).toNat (s.get! (j + 3)).toNat := by
      rw [decode_at, hs, show j + 4 - j = 4 by omega, g j (by omega), g (j + 1) (by omega), g (j + 2) (by omega), g (j + 3) (by omega)]; exact hd
    rw [← ht, ← hD]
    refine lastL_of t j (by omega) (lastStart_at4 _ j (by rw [← size_eq]; exact hs) ?_ ?_ ?_) ?_ ?_
    · rw [getD_get!, g (j + 2) (by omega)]; unfold runeStartB; simp [h2]
    · rw [getD_get!, g (j + 1) (by omega)]; unfold runeStartB; simp [h1]
    · rw [getD_get!, g j (by omega)]; unfold runeStartB; rw [bne_iff_ne]; omega
    · rw [hs, show j + 4 - 1 = j + 3 by omega, g (j + 3) (by omega)]; omega
    · rw [hD, e2, hs]
theorem decodeGo_at (s : ByteArray) (j : Nat) (h : j < s.size) : decodeGo (s.extract j s.size) = Utf8.decode s j := by
  unfold decodeGo
  rw [if_neg (by rw [tail_size]; omega), tail_decode, Nat.add_zero]
theorem decode_bd (s : ByteArray) (j : Nat) (h : j < s.size) : 1 ≤ (Utf8.decode s j).2 ∧ j + (Utf8.decode s j).2 ≤ s.size ∧ (Utf8.decode s j).2 ≤ 4 ∧ (Utf8.decode s j).1 ≤ 1114111 := by
  have h1 := decodeGo_le_size (s.extract j s.size)
  have h4 := decodeGo_le4 (s.extract j s.size)
  rw [tail_size] at h1
  rw [decodeGo_at s j h] at h1 h4
  exact ⟨width_pos _ _, by omega, h4, rune_le _ _⟩
end MF
end Go.Proofs.YtkkkamniccgblaaFmt
