/- Proved here: the contract of zzWordModel: it returns what one fold over the bytes gives. Condition: the string's length, as stated. -/
import Derived.Test.YtpccnignlpebhaaEVA
import Derived.WalkKit
import Derived.WalkSpells
import Derived.WalkLawsBesides
import Derived.Lib.Hide
import Derived.Lib.SliceRun
import Derived.Deep.RegionWith
import Derived.OwnWalk
import Derived.Laws.BytesArg
namespace Go.Proofs.Ytpccnignlpebhaa
open Go.RowKit
set_option linter.unusedSimpArgs false
set_option linter.unusedVariables false

theorem bAt_eq (s : ByteArray) (k : Nat) (h : k < s.size) : bAt s k = ((s[k]'h).toNat : Int) := by
  unfold bAt
  have := get_at s k h
  rw [Nat.add_zero] at this
  rw [this]
theorem L_cases (c : Int) : (isL c = true ∧ ((97 ≤ c ∧ c ≤ 122) ∨ (65 ≤ c ∧ c ≤ 90))) ∨ (isL c = false ∧ (122 < c ∨ (90 < c ∧ c < 97) ∨ c < 65)) := by
  unfold isL
  by_cases h1 : 97 ≤ c ∧ c ≤ 122
  · left; simp [h1]
  · by_cases h2 : 65 ≤ c ∧ c ≤ 90
    · left; simp [h2]
    · right
      refine ⟨by simp; omega, by omega⟩
theorem D_cases (c : Int) : (isD c = true ∧ 48 ≤ c ∧ c ≤ 57) ∨ (isD c = false ∧ ((48 ≤ c ∧ 57 < c) ∨ c < 48)) := by
  unfold isD
  by_cases h1 : 48 ≤ c ∧ c ≤ 57
  · left; simp [h1]
  · right; refine ⟨by simp; omega, by omega⟩
def IsB (b : Bool) (w : World) (e : Ending) (w' : World) : Prop := e = .returned (.bool b) ∧ w = w'

set_option maxRecDepth 100000 in
theorem letter (c : Int) (w : World) (h0 : 0 ≤ c) (h1 : c ≤ 255) : Calls Try.prog 7 #[.int .u8 c] w (IsB (isL c) w) := by
  rcases L_cases c with ⟨e, h | h⟩ | ⟨e, h | h | h⟩
  · rw [e]
    clear e
    have t0 : decide (97 ≤ c) = true := by simp; omega
    have t1 : decide (c ≤ 122) = true := by simp; omega
    go_enter Try.func7, Try.ntmps7
    go_wp2_with fail
    go_ret
    exact ⟨rfl, rfl⟩
  · rw [e]
    clear e
    have t0 : decide (97 ≤ c) = false := by simp; omega
    have t1 : decide (65 ≤ c) = true := by simp; omega
    have t2 : decide (c ≤ 90) = true := by simp; omega
    go_enter Try.func7, Try.ntmps7
    go_wp2_with fail
    go_ret
    exact ⟨rfl, rfl⟩
  · rw [e]
    clear e
    have t0 : decide (97 ≤ c) = true := by simp; omega
    have t1 : decide (c ≤ 122) = false := by simp; omega
    have t2 : decide (65 ≤ c) = true := by simp; omega
    have t3 : decide (c ≤ 90) = false := by simp; omega
    go_enter Try.func7, Try.ntmps7
    go_wp2_with fail
    go_ret
    exact ⟨rfl, rfl⟩
  · rw [e]
    clear e
    have t0 : decide (97 ≤ c) = false := by simp; omega
    have t1 : decide (65 ≤ c) = true := by simp; omega
    have t2 : decide (c ≤ 90) = false := by simp; omega
    go_enter Try.func7, Try.ntmps7
    go_wp2_with fail
    go_ret
    exact ⟨rfl, rfl⟩
  · rw [e]
    clear e
    have t0 : decide (97 ≤ c) = false := by simp; omega
    have t1 : decide (65 ≤ c) = false := by simp; omega
    go_enter Try.func7, Try.ntmps7
    go_wp2_with fail
    go_ret
    exact ⟨rfl, rfl⟩

set_option maxRecDepth 100000 in
theorem digit (c : Int) (w : World) (h0 : 0 ≤ c) (h1 : c ≤ 255) : Calls Try.prog 9 #[.int .u8 c] w (IsB (isD c) w) := by
  rcases D_cases c with ⟨e, h⟩ | ⟨e, h | h⟩
  · rw [e]
    clear e
    have t0 : decide (48 ≤ c) = true := by simp; omega
    have t1 : decide (c ≤ 57) = true := by simp; omega
    go_enter Try.func9, Try.ntmps9
    go_wp2_with fail
    go_ret
    exact ⟨rfl, rfl⟩
  · rw [e]
    clear e
    have t0 : decide (48 ≤ c) = true := by simp; omega
    have t1 : decide (c ≤ 57) = false := by simp; omega
    go_enter Try.func9, Try.ntmps9
    go_wp2_with fail
    go_ret
    exact ⟨rfl, rfl⟩
  · rw [e]
    clear e
    have t0 : decide (48 ≤ c) = false := by simp; omega
    go_enter Try.func9, Try.ntmps9
    go_wp2_with fail
    go_ret
    exact ⟨rfl, rfl⟩

set_option maxRecDepth 100000 in
theorem alnum (c : Int) (w : World) (h0 : 0 ≤ c) (h1 : c ≤ 255) : Calls Try.prog 8 #[.int .u8 c] w (IsB (isA c) w) := by
  have HL := Lib.hid (letter c w h0 h1)
  have HD := Lib.hid (digit c w h0 h1)
  unfold isA
  obtain ⟨x, hx⟩ : ∃ x, x = isL c := ⟨_, rfl⟩
  obtain ⟨y, hy⟩ : ∃ y, y = isD c := ⟨_, rfl⟩
  rw [← hx] at HL ⊢
  rw [← hy] at HD ⊢
  clear hx hy
  go_enter Try.func8, Try.ntmps8
  go_wp2_with fail
  refine HL.out.mono ?_
  rintro e w' ⟨rfl, rfl⟩
  cases x
  · go_wp2_with fail
    refine HD.out.mono ?_
    rintro e w' ⟨rfl, rfl⟩
    go_wp2_with fail
    go_ret
    exact ⟨rfl, rfl⟩
  · go_wp2_with fail
    go_ret
    exact ⟨rfl, rfl⟩
theorem is_t {F : Nat} {v : Value} {b : Bool} {w : World} (h : Calls Try.prog F #[v] w (IsB b w)) (e : b = true) : Calls Try.prog F #[v] w (IsB true w) := by rw [← e]; exact h
theorem is_f {F : Nat} {v : Value} {b : Bool} {w : World} (h : Calls Try.prog F #[v] w (IsB b w)) (e : b = false) : Calls Try.prog F #[v] w (IsB false w) := by rw [← e]; exact h
def PRel (s : ByteArray) (i : Value) : Prop := ∃ k : Nat, k ≤ s.size ∧ i = .int .i64 k ∧ Hid (∀ j, j < k → isL (bAt s j) = false)
def WRel (s : ByteArray) (w : World) (i v : Value) (wr : World) : Prop :=
  ∃ (k : Nat) (out : List Int), k ≤ s.size ∧ i = .int .i64 k ∧ Hid (F (bAt s) k = (out, false)) ∧ Own wr w.heap.size v out ∧ Below w.heap.size w wr ∧ Hid ((out = [] ∧ k < s.size ∧ isL (bAt s k) = true) ∨ (out ≠ [] ∧ (k = s.size ∨ isA (bAt s k) = false)))
def KRel (s : ByteArray) (k : Nat) (i : Value) : Prop := ∃ j : Nat, k ≤ j ∧ j ≤ s.size ∧ i = .int .i64 j ∧ Hid (∀ t, k ≤ t → t < j → isA (bAt s t) = false)
def ARel (s : ByteArray) (w : World) (j : Nat) (i v : Value) (wr : World) : Prop :=
  ∃ (t : Nat) (o : List Int) (g : Bool), j ≤ t ∧ t ≤ s.size ∧ i = .int .i64 t ∧ Hid (F (bAt s) t = (o, g)) ∧ Own wr w.heap.size v (o ++ gp g) ∧ Below w.heap.size w wr ∧ Hid ((t = j ∧ (o ≠ [] ∨ isL (bAt s t) = true)) ∨ (j < t ∧ g = false ∧ o ≠ []))
theorem cls_of {c : Int} {o : List Int} (h : isA c = true) (h2 : o ≠ [] ∨ isL c = true) : cls c o = true := by
  unfold cls
  simp only [isA, Bool.or_eq_true] at h
  rcases h2 with h2 | h2
  · rcases h with h | h <;> simp [h, h2]
  · simp [h2]
theorem u8_of (s : ByteArray) (k : Nat) (h : k < s.size) : 0 ≤ ((s[k]'h).toNat : Int) ∧ ((s[k]'h).toNat : Int) ≤ 255 := by
  have := (s[k]'h).toNat_lt
  omega

set_option maxRecDepth 100000 in
set_option maxHeartbeats 8000000 in
theorem word_any (s : ByteArray) (w : World) (hs : s.size ≤ 1048576) : Calls Try.prog 6 #[.string s] w (RPost s w) := by
  obtain ⟨i0, hi, hz0, hz1, hz2⟩ := info_parts (P := Try.prog) (e := 5) (z := .int .u8 0) (size := 1) (bytes := 1) (by kernel_rfl)
  have HI := Lib.hid hi
  have HI0 := Lib.hid hz0
  have HI1 := Lib.hid hz1
  have HI2 := Lib.hid hz2
  clear hi hz0 hz1 hz2
  go_enter Try.func6, Try.ntmps6
  go_wp2_with fail
  go_loop [3] (fun i => PRel s i) (fun i => s.size - (intOf i).toNat)
  case atStart => exact ⟨0, by omega, rfl, Lib.hid (fun j hj => absurd hj (by omega))⟩
  case round =>
    obtain ⟨k, hk, rfl, HP⟩ := hrel
    by_cases hlt : k < s.size
    · obtain ⟨z0, z1⟩ := u8_of s k hlt
      have HE := Lib.hid (bAt_eq s k hlt)
      have HC := Lib.hid (fun W : World => letter ((s[k]'hlt).toNat : Int) W z0 z1)
      cases hl : isL (bAt s k)
      · have NP := Lib.hid (show ∀ j, j < k + 1 → isL (bAt s j) = false from fun j hj => by
          by_cases e : j = k
          · subst e; exact hl
          · exact HP.out j (by omega))
        have HC' := Lib.hid (fun W : World => is_f (HC.out W) (by rw [← HE.out]; exact hl))
        clear hl HC
        go_wp2_with (go_at_call 7; refine (HC'.out _).mono ?_; rintro e w' ⟨rfl, rfl⟩)
        go_round
        case rel => exact ⟨k + 1, by omega, by go_num, NP.out |> Lib.hid⟩
        case measure => simp [intOf]; omega
      · have HL := Lib.hid hl
        have HC' := Lib.hid (fun W : World => is_t (HC.out W) (by rw [← HE.out]; exact hl))
        have e1 : (k == s.size) = false := by simp; omega
        have e2 : ((k : Int) == (s.size : Int)) = false := by simp; omega
        clear hl HC
        go_wp2_with (go_at_call 7; refine (HC'.out _).mono ?_; rintro e w' ⟨rfl, rfl⟩)
        have P0 := Lib.hid (F_pre HP.out)
        clear HP HC' HE e1 e2
        go_loopw [3, 4] (fun i v wr => WRel s w i v wr) (fun i _ _ => s.size - (intOf i).toNat)
        case atStart =>
          exact ⟨k, [], hk, rfl, P0, World.ownsRow_made w #[] 0 (Nat.le_refl _) (by unfold maxLen; omega) rfl, (Below.refl _ w).alloc (Nat.le_refl _) _, Lib.hid (.inl ⟨rfl, hlt, HL.out⟩)⟩
        case round =>
          clear P0 HL
          obtain ⟨q, out, hq, rfl, HF, hown, hb, HX⟩ := hrel
          by_cases hql : q < s.size
          · obtain ⟨wo, rfl⟩ : ∃ wo : World, wo = wr := ⟨_, rfl⟩
            have OWN := Lib.hid hown
            have WB := Lib.hid hb
            clear hown hb
            go_wp2_with fail
            go_loop [3] (fun i => KRel s q i) (fun i => s.size - (intOf i).toNat)
            case atStart => exact ⟨q, by omega, by omega, rfl, Lib.hid (fun t h1 h2 => absurd h2 (by omega))⟩
            case round =>
              obtain ⟨j, hj0, hj1, rfl, HK⟩ := hrel
              by_cases hjl : j < s.size
              · obtain ⟨y0, y1⟩ := u8_of s j hjl
                have HE := Lib.hid (bAt_eq s j hjl)
                have HC := Lib.hid (fun W : World => alnum ((s[j]'hjl).toNat : Int) W y0 y1)
                cases ha : isA (bAt s j)
                · have NK := Lib.hid (show ∀ t, q ≤ t → t < j + 1 → isA (bAt s t) = false from fun t h1 h2 => by
                    by_cases e : t = j
                    · subst e; exact ha
                    · exact HK.out t h1 (by omega))
                  have HC' := Lib.hid (fun W : World => is_f (HC.out W) (by rw [← HE.out]; exact ha))
                  clear ha HC
                  go_wp2_with (go_at_call 8; refine (HC'.out _).mono ?_; rintro e w' ⟨rfl, rfl⟩)
                  go_round
                  case rel => exact ⟨j + 1, by omega, by omega, by go_num, NK.out |> Lib.hid⟩
                  case measure => simp [intOf]; omega
                · have HA := Lib.hid ha
                  have HC' := Lib.hid (fun W : World => is_t (HC.out W) (by rw [← HE.out]; exact ha))
                  have e1 : (j == s.size) = false := by simp; omega
                  have e2 : ((j : Int) == (s.size : Int)) = false := by simp; omega
                  clear ha HC
                  obtain ⟨a, c, rfl⟩ := OWN.out.shape
                  by_cases hoe : out = []
                  · subst hoe
                    have hqj : j = q := by
                      rcases HX.out with ⟨_, _, h⟩ | ⟨h, _⟩
                      · by_cases e : j = q
                        · exact e
                        · have := HK.out q (by omega) (by omega)
                          simp [isA, h] at this
                      · exact absurd rfl h
                    have HLJ := Lib.hid (show isL (bAt s j) = true from by rcases HX.out with ⟨_, _, h⟩ | ⟨h, _⟩; rw [hqj]; exact h; exact absurd rfl h)
                    have FJ := Lib.hid (show F (bAt s) j = ([], false) from by rw [hqj]; exact HF.out)
                    have hqj' : q ≤ j := by omega
                    clear hqj HX HK HF
                    go_wp2_with (go_at_call 8; refine (HC'.out _).mono ?_; rintro e w' ⟨rfl, rfl⟩)
                    clear e1 e2 HC' HE y0 y1
                    go_loopw [3, 4] (fun i v wr => ARel s w j i v wr) (fun i _ _ => s.size - (intOf i).toNat)
                    case atStart => exact ⟨j, _, _, by omega, by omega, rfl, FJ, OWN.out, WB.out, Lib.hid (.inl ⟨rfl, .inr HLJ.out⟩)⟩
                    case round =>
                      obtain ⟨t, o, g, ht0, ht1, rfl, HFt, hown4, hb4, HT⟩ := hrel
                      have WB4 := Lib.hid hb4
                      clear hb4
                      by_cases htl : t < s.size
                      · obtain ⟨x0, x1⟩ := u8_of s t htl
                        have HE4 := Lib.hid (bAt_eq s t htl)
                        have HC4 := Lib.hid (fun W : World => alnum ((s[t]'htl).toNat : Int) W x0 x1)
                        cases ha : isA (bAt s t)
                        · have HT2 : j < t ∧ g = false ∧ o ≠ [] := by
                            rcases HT.out with ⟨e, _⟩ | h
                            · have := HA.out; rw [← e, ha] at this; cases this
                            · exact h
                          obtain ⟨hjt, rfl, hne4⟩ := HT2
                          have OWN4 := Lib.hid (show Own wr w.heap.size _ o from by simpa [gp] using hown4)
                          have HX4 := Lib.hid (show (o = [] ∧ t < s.size ∧ isL (bAt s t) = true) ∨ (o ≠ [] ∧ (t = s.size ∨ isA (bAt s t) = false)) from .inr ⟨hne4, .inr ha⟩)
                          have HC4' := Lib.hid (fun W : World => is_f (HC4.out W) (by rw [← HE4.out]; exact ha))
                          clear ha HC4 HT hown4 hne4
                          go_wp2_with (go_at_call 8; refine (HC4'.out _).mono ?_; rintro e w' ⟨rfl, rfl⟩)
                          go_roundw
                          case rel => exact ⟨t, o, ht1, rfl, HFt, OWN4.out, WB4.out, HX4⟩
                          case measure => simp [intOf]; omega
                        · have hcl := cls_of (o := o) ha (by rcases HT.out with ⟨_, h⟩ | ⟨_, _, h⟩; exact h; exact .inl h)
                          have HN := Lib.hid (show F (bAt s) (t + 1) = (o ++ gp g ++ [bAt s t], false) from by
                            have := F_yes (b := bAt s) (k := t) (by rw [HFt.out]; exact hcl)
                            rw [HFt.out] at this
                            exact this)
                          have HC4' := Lib.hid (fun W : World => is_t (HC4.out W) (by rw [← HE4.out]; exact ha))
                          have hlen4 : (o ++ gp g).length ≤ 2 * t + 1 := by
                            have h1 := F_len (bAt s) t
                            rw [HFt.out] at h1
                            have h2 : (gp g).length ≤ 1 := by unfold gp; split <;> simp
                            simp only [List.length_append] at h1 ⊢
                            omega
                          obtain ⟨oo, hoo⟩ : ∃ oo, oo = o ++ gp g := ⟨_, rfl⟩
                          rw [← hoo] at hlen4 hown4 HN
                          rw [HE4.out] at HN
                          have OWN4 := Lib.hid hown4
                          clear ha HC4 HT hown4 hcl hoo HFt HE4
                          go_wp2_with (first | (go_at_call 8; refine (HC4'.out _).mono ?_; rintro e w' ⟨rfl, rfl⟩) | (with_reducible refine wpList_append_own _ (o := ⟨some 65, _, _, _, _, _⟩) rfl _ _ 24 rfl w.heap.size 5 i0 (.int .u8 0) 1 1 Try.underlying24 HI.out HI0.out HI1.out HI2.out rfl (by decide) _ _ _ rfl (OWN4.out.alloc _).row ⟨wr.heap.size, 0, none⟩ 1 1 [.int .u8 ((s[t]'htl).toNat : Int)] rfl rfl ?c1 ?c2 ?c3 ?c4 ?c5 ?_))
                          case c1 =>
                            intro j u hj
                            have hj0 : j = 0 := by rcases j with _ | j <;> simp at hj ⊢
                            subst hj0
                            simp at hj
                            subst hj
                            simp [Addr.add_lit, World.cell?_alloc_new]
                          case c2 => simp [Value.oneCell']
                          case c3 => unfold maxLen; simp; omega
                          case c4 => simp; omega
                          case c5 => have := WB4.out.size; simp; omega
                          intro v5 W5 hown5 hgr5 _
                          have OWN5 := Lib.hid (Own.snoc hown5)
                          have WB5 := Lib.hid (Below.grown (WB4.out.alloc WB4.out.size _) hgr5 (by have := WB4.out.size; simp; omega) (OWN4.out.base))
                          clear hown5 hgr5 OWN4 HC4'
                          go_wp2_with fail
                          go_roundw
                          case rel => exact ⟨t + 1, _, false, by omega, by omega, by go_num, HN, by simpa [gp] using OWN5.out, WB5.out, Lib.hid (.inr ⟨by omega, rfl, by simp⟩)⟩
                          case measure => simp [intOf]; omega
                      · have et : t = s.size := by omega
                        subst et
                        have HT2 : g = false ∧ o ≠ [] := by
                          rcases HT.out with ⟨e, _⟩ | ⟨_, h⟩
                          · omega
                          · exact h
                        obtain ⟨rfl, hne4⟩ := HT2
                        have OWN4 := Lib.hid (show Own wr w.heap.size _ o from by simpa [gp] using hown4)
                        have HX4 := Lib.hid (show (o = [] ∧ s.size < s.size ∧ isL (bAt s s.size) = true) ∨ (o ≠ [] ∧ (s.size = s.size ∨ isA (bAt s s.size) = false)) from .inr ⟨hne4, .inl rfl⟩)
                        have e9 : decide (s.size < s.size) = false := by simp
                        clear HT hown4 hne4
                        go_wp2_with fail
                        go_roundw
                        case rel => exact ⟨s.size, o, ht1, rfl, HFt, OWN4.out, WB4.out, HX4⟩
                        case measure => simp [intOf]; omega
                  · have hqj : q < j := by
                      rcases HX.out with ⟨h, _⟩ | ⟨_, h | h⟩
                      · exact absurd h hoe
                      · omega
                      · by_cases e : j = q
                        · have := HA.out; rw [e, h] at this; cases this
                        · omega
                    have FJ := Lib.hid (show F (bAt s) j = (out, true) from by
                      obtain ⟨m, hm⟩ : ∃ m, j = q + (m + 1) := ⟨j - q - 1, by omega⟩
                      have := F_skip (b := bAt s) (k := q) m (fun t h1 h2 => HK.out t h1 (by omega))
                      rw [← hm, HF.out] at this
                      rw [this]
                      simp [hoe])
                    have hpos : 0 < out.length := List.length_pos_iff.2 hoe
                    have hdec : decide (0 < out.length) = true := by simpa using hpos
                    have hlen : out.length ≤ 2 * j := by have := F_len (bAt s) j; rw [FJ.out] at this; exact this
                    have HOE := Lib.hid hoe
                    clear HX HK HF hoe
                    go_wp2_with (first | (go_at_call 8; refine (HC'.out _).mono ?_; rintro e w' ⟨rfl, rfl⟩) | (with_reducible refine wpList_append_own _ (o := ⟨some 49, _, _, _, _, _⟩) rfl _ _ 24 rfl w.heap.size 5 i0 (.int .u8 0) 1 1 Try.underlying24 HI.out HI0.out HI1.out HI2.out rfl (by decide) _ _ _ rfl (OWN.out.alloc _).row ⟨wo.heap.size, 0, none⟩ 1 1 [.int .u8 95] rfl rfl ?c1 ?c2 ?c3 ?c4 ?c5 ?_))
                    case c1 =>
                      intro j u hj
                      have hj0 : j = 0 := by rcases j with _ | j <;> simp at hj ⊢
                      subst hj0
                      simp at hj
                      subst hj
                      simp [Addr.add_lit, World.cell?_alloc_new]
                    case c2 => simp [Value.oneCell']
                    case c3 => unfold maxLen; simp; omega
                    case c4 => simp; omega
                    case c5 => have := WB.out.size; simp; omega
                    intro v1 W1 hown1 hgr1 _
                    have OWN1 := Lib.hid (Own.snoc hown1)
                    have W1B := Lib.hid (Below.grown (WB.out.alloc WB.out.size _) hgr1 (by have := WB.out.size; simp; omega) (OWN.out.base))
                    clear hown1 hgr1 OWN WB
                    go_wp2_with fail
                    clear e1 e2 HC' HE y0 y1
                    go_loopw [3, 4] (fun i v wr => ARel s w j i v wr) (fun i _ _ => s.size - (intOf i).toNat)
                    case atStart => exact ⟨j, _, _, by omega, by omega, rfl, FJ, OWN1.out, W1B.out, Lib.hid (.inl ⟨rfl, .inl HOE.out⟩)⟩
                    case round =>
                      obtain ⟨t, o, g, ht0, ht1, rfl, HFt, hown4, hb4, HT⟩ := hrel
                      have WB4 := Lib.hid hb4
                      clear hb4
                      by_cases htl : t < s.size
                      · obtain ⟨x0, x1⟩ := u8_of s t htl
                        have HE4 := Lib.hid (bAt_eq s t htl)
                        have HC4 := Lib.hid (fun W : World => alnum ((s[t]'htl).toNat : Int) W x0 x1)
                        cases ha : isA (bAt s t)
                        · have HT2 : j < t ∧ g = false ∧ o ≠ [] := by
                            rcases HT.out with ⟨e, _⟩ | h
                            · have := HA.out; rw [← e, ha] at this; cases this
                            · exact h
                          obtain ⟨hjt, rfl, hne4⟩ := HT2
                          have OWN4 := Lib.hid (show Own wr w.heap.size _ o from by simpa [gp] using hown4)
                          have HX4 := Lib.hid (show (o = [] ∧ t < s.size ∧ isL (bAt s t) = true) ∨ (o ≠ [] ∧ (t = s.size ∨ isA (bAt s t) = false)) from .inr ⟨hne4, .inr ha⟩)
                          have HC4' := Lib.hid (fun W : World => is_f (HC4.out W) (by rw [← HE4.out]; exact ha))
                          clear ha HC4 HT hown4 hne4
                          go_wp2_with (go_at_call 8; refine (HC4'.out _).mono ?_; rintro e w' ⟨rfl, rfl⟩)
                          go_roundw
                          case rel => exact ⟨t, o, ht1, rfl, HFt, OWN4.out, WB4.out, HX4⟩
                          case measure => simp [intOf]; omega
                        · have hcl := cls_of (o := o) ha (by rcases HT.out with ⟨_, h⟩ | ⟨_, _, h⟩; exact h; exact .inl h)
                          have HN := Lib.hid (show F (bAt s) (t + 1) = (o ++ gp g ++ [bAt s t], false) from by
                            have := F_yes (b := bAt s) (k := t) (by rw [HFt.out]; exact hcl)
                            rw [HFt.out] at this
                            exact this)
                          have HC4' := Lib.hid (fun W : World => is_t (HC4.out W) (by rw [← HE4.out]; exact ha))
                          have hlen4 : (o ++ gp g).length ≤ 2 * t + 1 := by
                            have h1 := F_len (bAt s) t
                            rw [HFt.out] at h1
                            have h2 : (gp g).length ≤ 1 := by unfold gp; split <;> simp
                            simp only [List.length_append] at h1 ⊢
                            omega
                          obtain ⟨oo, hoo⟩ : ∃ oo, oo = o ++ gp g := ⟨_, rfl⟩
                          rw [← hoo] at hlen4 hown4 HN
                          rw [HE4.out] at HN
                          have OWN4 := Lib.hid hown4
                          clear ha HC4 HT hown4 hcl hoo HFt HE4
                          go_wp2_with (first | (go_at_call 8; refine (HC4'.out _).mono ?_; rintro e w' ⟨rfl, rfl⟩) | (with_reducible refine wpList_append_own _ (o := ⟨some 65, _, _, _, _, _⟩) rfl _ _ 24 rfl w.heap.size 5 i0 (.int .u8 0) 1 1 Try.underlying24 HI.out HI0.out HI1.out HI2.out rfl (by decide) _ _ _ rfl (OWN4.out.alloc _).row ⟨wr.heap.size, 0, none⟩ 1 1 [.int .u8 ((s[t]'htl).toNat : Int)] rfl rfl ?c1 ?c2 ?c3 ?c4 ?c5 ?_))
                          case c1 =>
                            intro j u hj
                            have hj0 : j = 0 := by rcases j with _ | j <;> simp at hj ⊢
                            subst hj0
                            simp at hj
                            subst hj
                            simp [Addr.add_lit, World.cell?_alloc_new]
                          case c2 => simp [Value.oneCell']
                          case c3 => unfold maxLen; simp; omega
                          case c4 => simp; omega
                          case c5 => have := WB4.out.size; simp; omega
                          intro v5 W5 hown5 hgr5 _
                          have OWN5 := Lib.hid (Own.snoc hown5)
                          have WB5 := Lib.hid (Below.grown (WB4.out.alloc WB4.out.size _) hgr5 (by have := WB4.out.size; simp; omega) (OWN4.out.base))
                          clear hown5 hgr5 OWN4 HC4'
                          go_wp2_with fail
                          go_roundw
                          case rel => exact ⟨t + 1, _, false, by omega, by omega, by go_num, HN, by simpa [gp] using OWN5.out, WB5.out, Lib.hid (.inr ⟨by omega, rfl, by simp⟩)⟩
                          case measure => simp [intOf]; omega
                      · have et : t = s.size := by omega
                        subst et
                        have HT2 : g = false ∧ o ≠ [] := by
                          rcases HT.out with ⟨e, _⟩ | ⟨_, h⟩
                          · omega
                          · exact h
                        obtain ⟨rfl, hne4⟩ := HT2
                        have OWN4 := Lib.hid (show Own wr w.heap.size _ o from by simpa [gp] using hown4)
                        have HX4 := Lib.hid (show (o = [] ∧ s.size < s.size ∧ isL (bAt s s.size) = true) ∨ (o ≠ [] ∧ (s.size = s.size ∨ isA (bAt s s.size) = false)) from .inr ⟨hne4, .inl rfl⟩)
                        have e9 : decide (s.size < s.size) = false := by simp
                        clear HT hown4 hne4
                        go_wp2_with fail
                        go_roundw
                        case rel => exact ⟨s.size, o, ht1, rfl, HFt, OWN4.out, WB4.out, HX4⟩
                        case measure => simp [intOf]; omega
              · have ej : j = s.size := by omega
                subst ej
                have hne : out ≠ [] := by
                  rcases HX.out with ⟨_, _, h⟩ | ⟨h, _⟩
                  · have := HK.out q (by omega) hql
                    simp [isA, h] at this
                  · exact h
                have HFN := Lib.hid (show (F (bAt s) s.size).1 = out from by
                  obtain ⟨m, hm⟩ : ∃ m, s.size = q + (m + 1) := ⟨s.size - q - 1, by omega⟩
                  have := F_skip (b := bAt s) (k := q) m (fun t h1 h2 => HK.out t h1 (by omega))
                  rw [← hm, HF.out] at this
                  rw [this])
                have e1 : decide (s.size < s.size) = false := by simp
                have hown := OWN.out
                have hb := WB.out
                have RS := Lib.hid (show res s = strOfNums out from by rw [res_some (by rw [HFN.out]; exact hne), HFN.out])
                obtain ⟨g, c, rfl⟩ := hown.full hne
                have hcv : (convert 24 9 (.slice (some ⟨g, 0, none⟩) out.length c)).run Try.prog wo = .ok (.string (strOfNums out)) wo := run_convert_bytes_arg wo 24 5 Try.underlying24 Try.underlying5 g 0 _ _ out rfl hown.cells 9 Try.underlying9
                clear hown hb hne HFN HF OWN HX
                go_wp2_with fail
                go_ret
                exact ⟨by rw [RS.out]; rfl, WB.out⟩
          · have eq : q = s.size := by omega
            subst eq
            have hne : out ≠ [] := by
              rcases HX.out with ⟨_, h, _⟩ | ⟨h, _⟩
              · omega
              · exact h
            have RS := Lib.hid (show res s = strOfNums out from by rw [res_some (by rw [HF.out]; exact hne), HF.out])
            obtain ⟨g, c, rfl⟩ := hown.full hne
            have hcv : (convert 24 9 (.slice (some ⟨g, 0, none⟩) out.length c)).run Try.prog wr = .ok (.string (strOfNums out)) wr := run_convert_bytes_arg wr 24 5 Try.underlying24 Try.underlying5 g 0 _ _ out rfl hown.cells 9 Try.underlying9
            have WB := Lib.hid hb
            clear hown hb hne HF HX
            go_wp2_with fail
            go_ret
            exact ⟨by rw [RS.out]; rfl, WB.out⟩
    · have e : k = s.size := by omega
      subst e
      have RS := Lib.hid (res_nil (s := s) (by rw [F_pre HP.out]))
      have e1 : decide (s.size < s.size) = false := by simp
      go_wp2_with fail
      go_ret
      exact ⟨by rw [RS.out]; rfl, Below.refl _ _⟩
end Go.Proofs.Ytpccnignlpebhaa
