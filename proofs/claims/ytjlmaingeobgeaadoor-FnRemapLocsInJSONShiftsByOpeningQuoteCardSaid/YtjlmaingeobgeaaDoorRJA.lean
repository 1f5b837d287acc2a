/- Proved here: what makeTable's texts are; the contract of GenerateStringInJSTable on such a text. Conditions as stated. -/
import Derived.Test.YtjlmaingeobgeaaDoorBase
import Derived.Test.YtjlmaingeobgeaaDoorShelf
import Derived.WalkKit
import Derived.WalkSpells
import Derived.WalkLawsBesides
import Derived.Lib.Hide
import Derived.Lib.SliceRun
import Derived.Deep.RegionWith
import Derived.OwnWalk
import Derived.Laws.OwnMore
import Derived.Laws.BytesArg
import Derived.Lib.DecodeN
import Derived.Carry
namespace Go.Proofs.YtjlmaingeobgeaaDoor
open Go.RowKit
set_option linter.unusedSimpArgs false
set_option linter.unusedVariables false

theorem atNe {w : World} {a b : Nat} {t t' : TypeId} {cs cs' : Array Value} (h : At w a t cs) (h' : At w b t' cs') (ht : t ≠ t') : a ≠ b := by
  intro e
  subst e
  unfold At at h h'
  rw [h] at h'
  simp only [Option.some.injEq, Obj.cells.injEq] at h'
  exact ht h'.2.1
theorem ownKeep0 {w w' : World} {B : Nat} {e : TypeId} {sz : Nat} {v : Value} {n : Nat} {xs : List Value} (h : w.ownsRow B e sz v n xs) (hk : ∀ g cs, v.ownBlock = some g → At w g e cs → w'.heap[g]? = w.heap[g]?) : w'.ownsRow B e sz v n xs := by
  obtain ⟨h0, h | ⟨g, cap, cur, h1, h2, h3, h4⟩⟩ := h
  · exact ⟨h0, .inl h⟩
  · exact ⟨h0, .inr ⟨g, cap, cur, h1, h2, (hk g cur (by rw [h1]; rfl) h3).trans h3, h4⟩⟩
theorem ownBelow {w w' : World} {B : Nat} {e : TypeId} {sz : Nat} {v : Value} {n : Nat} {xs : List Value} (h : w.ownsRow B e sz v n xs) (hb : Below w.heap.size w w') : w'.ownsRow B e sz v n xs := ownKeep0 h (fun g cs _ hat => hb.block g hat.lt)
theorem ownShape {w : World} {B : Nat} {e : TypeId} {sz : Nat} {v : Value} {n : Nat} {xs : List Value} (h : w.ownsRow B e sz v n xs) : ∃ a c, v = .slice a n c := by
  obtain ⟨h0, ⟨h, hn⟩ | ⟨g, cap, cur, h1, h2, h3, h4⟩⟩ := h
  · subst hn; exact ⟨_, _, h⟩
  · exact ⟨_, _, h1⟩
theorem ownLow {w : World} {B B' : Nat} {e : TypeId} {sz : Nat} {v : Value} {n : Nat} {xs : List Value} (h : w.ownsRow B e sz v n xs) (hB : B' ≤ B) : w.ownsRow B' e sz v n xs := by
  obtain ⟨h0, h | ⟨g, cap, cur, h1, h2, h3⟩⟩ := h
  · exact ⟨h0, .inl h⟩
  · exact ⟨h0, .inr ⟨g, cap, cur, h1, by omega, h3⟩⟩
theorem ownFull {w : World} {B : Nat} {e : TypeId} {sz : Nat} {v : Value} {n : Nat} {xs : List Value} (h : w.ownsRow B e sz v n xs) (hn : 0 < n) : ∃ g c, v = .slice (some ⟨g, 0, none⟩) n c ∧ B ≤ g ∧ n ≤ c ∧ c ≤ maxLen ∧ ∃ cs, At w g e cs := by
  obtain ⟨h0, ⟨_, h⟩ | ⟨g, cap, cur, h1, h2, h3, h4, h5, _⟩⟩ := h
  · omega
  · exact ⟨g, cap, h1, h2, h4, h5, cur, h3⟩
/-- The first n elements of an owned row are owned. -/
theorem ownTake {w : World} {B g c : Nat} {e : TypeId} {sz n m : Nat} {xs ys : List Value} (h : w.ownsRow B e sz (.slice (some ⟨g, 0, none⟩) (n + m) c) (n + m) (xs ++ ys)) (hx : xs.length = n * sz) : w.ownsRow B e sz (.slice (some ⟨g, 0, none⟩) n c) n xs := by
  obtain ⟨h0, ⟨h, _⟩ | ⟨g', cap, cur, h1, h2, h3, h4, h5, h6, h7⟩⟩ := h
  · cases h
  · simp only [Value.slice.injEq, Option.some.injEq, Addr.mk.injEq] at h1
    obtain ⟨⟨rfl, _⟩, _, rfl⟩ := h1
    refine ⟨hx, .inr ⟨g, c, cur, rfl, h2, h3, by omega, h5, h6, ?_⟩⟩
    have := congrArg (List.take (n * sz)) h7
    rw [List.take_take, Nat.min_eq_left (Nat.mul_le_mul_right _ (by omega)), List.take_left' hx] at this
    exact this
theorem tabsBelow {w w' : World} {a b : Nat} (h : Lib.Utf8Tabs a b w) (hb : Below w.heap.size w w') : Lib.Utf8Tabs a b w' := ⟨fun c hc => kept hb (h.1 c hc), fun i hi => ⟨kept hb (h.2 i hi).1, kept hb (h.2 i hi).2⟩⟩
/-- Texts without quote, backslash and line break: ASCII or U+00E9. -/
inductive PlainT : List Int → Prop
  | nil : PlainT []
  | one (c : Int) (t : List Int) (h : 0 ≤ c ∧ c < 128 ∧ c ≠ 34 ∧ c ≠ 92 ∧ c ≠ 10 ∧ c ≠ 13) (ht : PlainT t) : PlainT (c :: t)
  | two (t : List Int) (ht : PlainT t) : PlainT (195 :: 169 :: t)
theorem PlainT.append {a b : List Int} (ha : PlainT a) (hb : PlainT b) : PlainT (a ++ b) := by
  induction ha with
  | nil => exact hb
  | one c t h _ ih => exact .one c _ h ih
  | two t _ ih => exact .two _ ih
theorem str_extract (xs : List Int) (k : Nat) : (strOfNums xs).extract k (strOfNums xs).size = strOfNums (xs.drop k) := by
  apply ByteArray.ext
  apply Array.ext'
  rw [Lib.extract_data]
  simp [strOfNums, ByteArray.size, List.map_drop, List.take_of_length_le]
theorem dec_one (c : Int) (t : List Int) (h : 0 ≤ c ∧ c < 128) : Lib.decodeGo (strOfNums (c :: t)) = (c.toNat, 1) := by
  unfold Lib.decodeGo
  rw [if_neg (by rw [strOfNums_size]; simp), Lib.decode_at]
  have e : ((strOfNums (c :: t)).get! 0).toNat = c.toNat := by
    show (UInt8.ofNat c.toNat).toNat = c.toNat
    simp; omega
  rw [e]
  unfold Lib.decodeN
  rw [if_pos (by omega)]
theorem dec_pair (t : List Int) : Lib.decodeGo (strOfNums (195 :: 169 :: t)) = (233, 2) := by
  unfold Lib.decodeGo
  rw [if_neg (by rw [strOfNums_size]; simp), Lib.decode_at]
  have e : ((strOfNums (195 :: 169 :: t)).get! 0).toNat = 195 := rfl
  have e1 : ((strOfNums (195 :: 169 :: t)).get! (0 + 1)).toNat = 169 := rfl
  rw [e, e1, strOfNums_size]
  unfold Lib.decodeN
  simp
def outerL (pad : Nat) (xs : List Int) : List Int := List.replicate pad 32 ++ (34 :: (xs ++ [34]))
theorem outer_drop (pad : Nat) (xs : List Int) (k : Nat) (hk : k ≤ xs.length) : (outerL pad xs).drop (pad + 1 + k) = xs.drop k ++ [34] := by
  unfold outerL
  rw [List.drop_append, List.drop_of_length_le (by simp; omega), List.nil_append, List.length_replicate, show pad + 1 + k - pad = k + 1 from by omega, List.drop_succ_cons, List.drop_append_of_le_length hk]
/-- What stands at a boundary. -/
theorem decs (pad : Nat) (xs : List Int) (k : Nat) (hk : k < xs.length) (hp : PlainT (xs.drop k)) :
    ∃ r wd : Nat, Lib.decodeGo ((strOfNums xs).extract k (strOfNums xs).size) = (r, wd) ∧ Lib.decodeGo ((strOfNums (outerL pad xs)).extract (pad + 1 + k) (strOfNums (outerL pad xs)).size) = (r, wd) ∧ (1 ≤ wd ∧ wd ≤ 2) ∧ k + wd ≤ xs.length ∧ PlainT (xs.drop (k + wd)) ∧ r ≤ 255 ∧ r ≠ 92 ∧ r ≠ 10 ∧ r ≠ 13 := by
  rw [str_extract, str_extract, outer_drop pad xs k (by omega)]
  have hl : (xs.drop k).length = xs.length - k := by simp
  generalize hd : xs.drop k = d at hp hl
  cases hp with
  | nil => simp at hl; omega
  | one c t h ht =>
    refine ⟨c.toNat, 1, dec_one c t ⟨h.1, h.2.1⟩, by rw [List.cons_append]; exact dec_one c (t ++ [34]) ⟨h.1, h.2.1⟩, by omega, by simp at hl; omega, ?_, by omega, by omega, by omega, by omega⟩
    have := congrArg (List.drop 1) hd
    rw [List.drop_drop] at this
    rw [this]; exact ht
  | two t ht =>
    refine ⟨233, 2, dec_pair t, by rw [List.cons_append, List.cons_append]; exact dec_pair (t ++ [34]), by omega, by simp at hl; omega, ?_, by omega, by omega, by omega, by omega⟩
    have := congrArg (List.drop 2) hd
    rw [List.drop_drop] at this
    rw [this]; exact ht

def T4 (p : Int) : List Value := [.int .i32 1, .int .i32 0, .int .i32 0, .int .i32 p]
def TBL (p : Int) (w : World) (e : Ending) (w' : World) : Prop := ∃ (g cap : Nat), e = .returned (.slice (some ⟨g, 0, none⟩) 1 cap) ∧ w'.ownsRow w.heap.size 321 4 (.slice (some ⟨g, 0, none⟩) 1 cap) 1 (T4 p) ∧ Below w.heap.size w w'
theorem info321 : (Tryd.prog.info? 321).map (fun i => (i.zero, i.size, i.bytes)) = some (some (.agg #[.int .i32 0, .int .i32 0, .int .i32 0, .int .i32 0]), 4, 16) := by kernel_rfl
def GR (xs : List Int) (p : Nat) (w : World) (v i ln c : Value) (wr : World) : Prop :=
  ∃ (k q : Nat), i = .int .i32 k ∧ ln = .int .i32 1 ∧ c = .int .i32 k ∧ k ≤ xs.length ∧ Hid (q = p + k) ∧ Hid (PlainT (xs.drop k)) ∧ Hid (At wr (w.heap.size + 1) 33 #[.int .i32 (q : Int)]) ∧ Hid (Below w.heap.size w wr) ∧
    ((k = 0 ∧ v = .slice none 0 0) ∨ (0 < k ∧ ∃ g cap, v = .slice (some ⟨g, 0, none⟩) 1 cap ∧ Hid (wr.ownsRow w.heap.size 321 4 (.slice (some ⟨g, 0, none⟩) 1 cap) 1 (T4 p))))
set_option maxRecDepth 100000 in
set_option maxHeartbeats 8000000 in
theorem genTable (xs : List Int) (pad : Nat) (w : World) (hp : PlainT xs) (h0 : 0 < xs.length) (hl : xs.length ≤ 200000) (hpad : pad ≤ 200000) (hT : Lib.Utf8Tabs 1 2 w) :
    Calls Tryd.prog 60 #[.string (strOfNums (outerL pad xs)), .agg #[.int .i32 (pad : Int)], .string (strOfNums xs)] w (TBL ((pad + 1 : Nat) : Int) w) := by
  obtain ⟨so, hso⟩ : ∃ so, so = strOfNums (outerL pad xs) := ⟨_, rfl⟩
  obtain ⟨si, hsi⟩ : ∃ si, si = strOfNums xs := ⟨_, rfl⟩
  have hsz : so.size = pad + 1 + xs.length + 1 := by rw [hso, strOfNums_size]; simp [outerL]; omega
  have hsn : si.size = xs.length := by rw [hsi, strOfNums_size]
  have HD := Lib.hid (show ∀ k, k < xs.length → PlainT (xs.drop k) → ∃ r wd : Nat, Lib.decodeGo (si.extract k si.size) = (r, wd) ∧ Lib.decodeGo (so.extract (pad + 1 + k) so.size) = (r, wd) ∧ (1 ≤ wd ∧ wd ≤ 2) ∧ k + wd ≤ xs.length ∧ PlainT (xs.drop (k + wd)) ∧ r ≤ 255 ∧ r ≠ 92 ∧ r ≠ 10 ∧ r ≠ 13 from by rw [hso, hsi]; exact decs pad xs)
  rw [← hso, ← hsi]
  obtain ⟨P, hP⟩ : ∃ P, P = pad + 1 := ⟨_, rfl⟩
  rw [← hP]
  rw [← hP] at HD
  have HPP := Lib.hid hP
  have hsz0 : P + xs.length + 1 ≤ so.size := by omega
  have hP2 : P ≤ 200001 := by omega
  clear hP
  obtain ⟨n, hn⟩ : ∃ n, n = xs.length := ⟨_, rfl⟩
  rw [← hn] at h0 hl HD hsz0
  have hsz1 : (so.size : Int) ≤ 400002 := by omega
  rw [← hn] at hsn
  have HN := Lib.hid hn
  clear hn
  have HP := Lib.hid hp
  have HT := Lib.hid hT
  have hsn1 : (si.size : Int) ≤ 200000 := by omega
  have HSN := Lib.hid hsn
  have hpad1 : (pad : Int) ≤ 200000 := by omega
  have hpad0 : (0 : Int) ≤ (pad : Int) := Int.natCast_nonneg _
  have hsi0 : (0 : Int) ≤ (si.size : Int) := Int.natCast_nonneg _
  have hP1 : (P : Int) ≤ 200001 := by omega
  have hP0 : (0 : Int) ≤ (P : Int) := Int.natCast_nonneg _
  clear hp hT hso hsi hsz hsn
  obtain ⟨i0, hi0, hz0, hz1, hz2⟩ := info_parts info321
  have I0 := Lib.hid hi0
  have I1 := Lib.hid hz0
  have I2 := Lib.hid hz1
  have I3 := Lib.hid hz2
  clear hi0 hz0 hz1 hz2
  go_enter Tryd.func60, Tryd.ntmps60
  go_wp2_with fail
  go_loopw [6, 7, 9, 10] (fun v i ln c wr => GR xs P w v i ln c wr) (fun _ i _ _ _ => si.size - (intOf i).toNat)
  case atStart =>
    refine ⟨0, P, rfl, rfl, rfl, Nat.zero_le _, Lib.hid (by omega), HP, Lib.hid ?_, Lib.hid (((Below.refl _ _).alloc (Nat.le_refl _) _).alloc (by simp) _), .inl ⟨rfl, rfl⟩⟩
    have := At.new (w.alloc (.cells #[.int .i32 (pad : Int)] 33)) 33 #[.int .i32 ((pad : Int) + 1)]
    rw [show (w.alloc (.cells #[.int .i32 (pad : Int)] 33)).heap.size = w.heap.size + 1 from by simp] at this
    rw [show ((P : Nat) : Int) = (pad : Int) + 1 from by rw [HPP.out]; rfl]
    exact this
  case round =>
    obtain ⟨k, q, rfl, rfl, rfl, hk, HQ, HPK, HAT, HB, hv⟩ := hrel
    have hkn : k ≤ n := by rw [HN.out]; exact hk
    clear hk
    by_cases hlt : k < n
    · obtain ⟨r, wd, d1, d2, hw, hkw, hpn, r255, r92, r10, r13⟩ := HD.out k hlt HPK.out
      have d2' : Lib.decodeGo (so.extract q so.size) = (r, wd) := by rw [HQ.out]; exact d2
      have D1 := Lib.hid d1
      have D2 := Lib.hid d2'
      have HPN := Lib.hid hpn
      have hqs : q + wd ≤ so.size := by have := HQ.out; omega
      have hqs1 : (q : Int) ≤ (so.size : Int) := by omega
      have q0 : (0 : Int) ≤ (q : Int) := Int.natCast_nonneg _
      have k0 : (0 : Int) ≤ (k : Int) := Int.natCast_nonneg _
      have r0 : (0 : Int) ≤ (r : Int) := Int.natCast_nonneg _
      have w0 : (0 : Int) ≤ (wd : Int) := Int.natCast_nonneg _
      have w1' : (wd : Int) ≤ 2 := by omega
      have r1' : (r : Int) ≤ 255 := by omega
      have q1 : (q : Int) ≤ 400002 := by omega
      have k1 : (k : Int) ≤ 200000 := by omega
      have hks : (k : Int) < (si.size : Int) := by have := HSN.out; omega
      have hks' : (k : Int) ≤ (si.size : Int) := by omega
      have t92 : ((r : Int) == 92) = false := by simp; omega
      have t92' : ((r : Int) != 92) = true := by simp; omega
      have t10 : ((r : Int) == 10) = false := by simp; omega
      have t13 : ((r : Int) == 13) = false := by simp; omega
      have tls : ((r : Int) == 8232) = false := by simp; omega
      have tps : ((r : Int) == 8233) = false := by simp; omega
      have HQW := Lib.hid (show q + wd = P + (k + wd) from by have := HQ.out; omega)
      have HQK := Lib.hid (show (q : Int) - (k : Int) = (P : Int) from by have := HQ.out; omega)
      have hwpos : 0 < wd := hw.1
      have HKW := Lib.hid hkw
      clear d1 d2 d2' hpn hw r92 r10 r13 hkw
      rcases hv with ⟨hk0, rfl⟩ | ⟨hk0, g, cap, rfl, HO⟩
      · subst hk0
        have D1 := Lib.hid (show Lib.decodeGo si = (r, wd) from by have := D1.out; simpa using this)
        have c33 : wr.cell? ⟨w.heap.size + 1, 0, none⟩ = some (.int .i32 (q : Int)) := by rw [HAT.out.cell]; rfl
        have l33 := HAT.out.lt
        go_wp2_with fail
        go_loopw [12, 13] (fun _ _ wq => wq = wr) (fun _ _ _ => 0)
        case atStart => rfl
        case round =>
          rename World => wq
          subst hrel
          go_wp2_with fail
          refine (Tryd.utf8_DecodeRuneInString _ _ (tabsBelow HT.out HB.out)).mono ?_
          rintro e w1 ⟨rfl, hb1⟩
          rw [D2.out]
          have HAT1 := Lib.hid (HAT.out.below hb1 HAT.out.lt)
          have HB1 := Lib.hid (HB.out.trans (hb1.mono HB.out.size))
          clear c33 l33
          clear hb1
          have c33 : w1.cell? ⟨w.heap.size + 1, 0, none⟩ = some (.int .i32 (q : Int)) := by rw [HAT1.out.cell]; rfl
          have l33 := HAT1.out.lt
          go_wp2_with fail
          refine (Tryd.utf8_DecodeRuneInString _ _ (tabsBelow HT.out HB1.out)).mono ?_
          rintro e w2 ⟨rfl, hb2⟩
          rw [D1.out]
          have HAT2 := Lib.hid (HAT1.out.below hb2 HAT1.out.lt)
          have HB2 := Lib.hid (HB1.out.trans (hb2.mono HB1.out.size))
          clear c33 l33
          have zb2 := HB2.out.size
          clear hb2
          have c33 : w2.cell? ⟨w.heap.size + 1, 0, none⟩ = some (.int .i32 (q : Int)) := by rw [HAT2.out.cell]; rfl
          have l33 := HAT2.out.lt
          go_wp2_with (with_reducible refine wpList_append_own _ (o := ⟨some 89, _, _, _, _, _⟩) rfl _ _ 77 rfl w.heap.size 321 i0 (.agg #[.int .i32 0, .int .i32 0, .int .i32 0, .int .i32 0]) 4 16 Tryd.underlying77 I0.out I1.out I2.out I3.out rfl (by decide) _ _ _ rfl (World.ownsRow.alloc (World.ownsRow_nil w2 w.heap.size 321 4) _) ⟨w2.heap.size, 0, none⟩ 1 1 [.int .i32 1, .int .i32 0, .int .i32 0, .int .i32 (q : Int)] rfl rfl ?c1 ?c2 ?c3 ?c4 ?c5 ?_)
          case c1 =>
            intro j u hj
            match j, hj with
            | 0, hj => simp at hj; subst hj; simp [Addr.add_lit, World.cell?_alloc_new]
            | 1, hj => simp at hj; subst hj; simp [Addr.add_lit, World.cell?_alloc_new]
            | 2, hj => simp at hj; subst hj; simp [Addr.add_lit, World.cell?_alloc_new]
            | 3, hj => simp at hj; subst hj; simp [Addr.add_lit, World.cell?_alloc_new]
            | j + 4, hj => simp at hj
          case c2 => simp [Value.oneCell']
          case c3 => unfold maxLen; (try simp)
          case c4 => (try simp)
          case c5 => (try simp); omega
          intro v3 w3 hown3 hgr3 _
          have HB23 := Lib.hid (show Below w2.heap.size w2 w3 from Below.grown ((Below.refl _ _).alloc (Nat.le_refl _) _) hgr3 (by simp) (fun x hx => by cases hx))
          have HAT3 := Lib.hid (HAT2.out.below HB23.out HAT2.out.lt)
          have HB3 := Lib.hid (HB2.out.trans (HB23.out.mono HB2.out.size))
          obtain ⟨g3, c3, rfl, hg3, _, hc3, cs3, hat3⟩ := ownFull hown3 (by omega)
          have hlg3 := hat3.lt
          have HO3 := Lib.hid (show w3.ownsRow w.heap.size 321 4 (.slice (some ⟨g3, 0, none⟩) 1 c3) 1 (T4 (P : Int)) from by
            have h := hown3
            rw [show (q : Int) = (P : Int) from by have := HQ.out; omega] at h
            exact h)
          clear hat3
          have zb3 := HB3.out.size
          clear hown3 hgr3 c33 l33
          have c33 : w3.cell? ⟨w.heap.size + 1, 0, none⟩ = some (.int .i32 (q : Int)) := by rw [HAT3.out.cell]; rfl
          have l33 := HAT3.out.lt
          go_wp2_with fail
          have HB4 := Lib.hid (Below.refl w3.heap.size w3)
          obtain ⟨w4, hw4⟩ : ∃ w4, w4 = w3 := ⟨_, rfl⟩
          rw [← hw4]
          rw [show Below w3.heap.size w3 w3 = Below w3.heap.size w3 w4 from by rw [hw4]] at HB4
          clear hw4 c33 l33
          have HB5 := Lib.hid (HB3.out.trans (HB4.out.mono HB3.out.size))
          refine (Tryd.utf8_DecodeRuneInString _ _ (tabsBelow HT.out HB5.out)).mono ?_
          rintro e w5 ⟨rfl, hb5⟩
          rw [D2.out]
          have HAT5 := Lib.hid ((HAT3.out.below HB4.out HAT3.out.lt).below hb5 (HAT3.out.below HB4.out HAT3.out.lt).lt)
          have HB6 := Lib.hid (HB5.out.trans (hb5.mono HB5.out.size))
          have HO5 := Lib.hid (ownBelow (ownBelow HO3.out HB4.out) hb5)
          clear hb5
          have f33 := HAT5.out.frozen 0
          have c33 : w5.cell? ⟨w.heap.size + 1, 0, none⟩ = some (.int .i32 (q : Int)) := by rw [HAT5.out.cell]; rfl
          have l33 := HAT5.out.lt
          have HNX := Lib.hid (show At (w5.setCell ⟨w.heap.size + 1, 0, none⟩ (.int .i32 ((q + wd : Nat) : Int))) (w.heap.size + 1) 33 #[.int .i32 ((q + wd : Nat) : Int)] from HAT5.out.set 0 _)
          have HNB := Lib.hid (show Below w.heap.size w (w5.setCell ⟨w.heap.size + 1, 0, none⟩ (.int .i32 ((q + wd : Nat) : Int))) from HB6.out.setCell (by simp) _)
          have HNO := Lib.hid (show (w5.setCell ⟨w.heap.size + 1, 0, none⟩ (.int .i32 ((q + wd : Nat) : Int))).ownsRow w.heap.size 321 4 (.slice (some ⟨g3, 0, none⟩) 1 c3) 1 (T4 (P : Int)) from ownKeep0 HO5.out (fun x cs _ hat => Below.heap_setCell _ _ _ x (by have := atNe hat HAT5.out (by decide); simpa using this)))
          go_wp2_with fail
          go_roundw
          case rel => exact ⟨0 + wd, q + wd, by go_num, rfl, by go_num, by rw [← HN.out]; exact HKW.out, HQW, HPN, HNX, HNB, .inr ⟨by omega, g3, c3, rfl, HNO⟩⟩
          case measure => simp [intOf]; omega
      · have c33 : wr.cell? ⟨w.heap.size + 1, 0, none⟩ = some (.int .i32 (q : Int)) := by rw [HAT.out.cell]; rfl
        have l33 := HAT.out.lt
        go_wp2_with fail
        go_loopw [12, 13] (fun _ _ wq => wq = wr) (fun _ _ _ => 0)
        case atStart => rfl
        case round =>
          rename World => wq
          subst hrel
          go_wp2_with fail
          refine (Tryd.utf8_DecodeRuneInString _ _ (tabsBelow HT.out HB.out)).mono ?_
          rintro e w1 ⟨rfl, hb1⟩
          rw [D2.out]
          have HAT1 := Lib.hid (HAT.out.below hb1 HAT.out.lt)
          have HB1 := Lib.hid (HB.out.trans (hb1.mono HB.out.size))
          clear c33 l33
          have HO1 := Lib.hid (ownBelow HO.out hb1)
          clear hb1
          have c33 : w1.cell? ⟨w.heap.size + 1, 0, none⟩ = some (.int .i32 (q : Int)) := by rw [HAT1.out.cell]; rfl
          have l33 := HAT1.out.lt
          go_wp2_with fail
          refine (Tryd.utf8_DecodeRuneInString _ _ (tabsBelow HT.out HB1.out)).mono ?_
          rintro e w2 ⟨rfl, hb2⟩
          rw [D1.out]
          have HAT2 := Lib.hid (HAT1.out.below hb2 HAT1.out.lt)
          have HB2 := Lib.hid (HB1.out.trans (hb2.mono HB1.out.size))
          clear c33 l33
          have HO2 := Lib.hid (ownBelow HO1.out hb2)
          have zb2 := HB2.out.size
          clear hb2
          have c33 : w2.cell? ⟨w.heap.size + 1, 0, none⟩ = some (.int .i32 (q : Int)) := by rw [HAT2.out.cell]; rfl
          have l33 := HAT2.out.lt
          go_wp2_with (with_reducible refine wpList_append_own _ (o := ⟨some 89, _, _, _, _, _⟩) rfl _ _ 77 rfl w.heap.size 321 i0 (.agg #[.int .i32 0, .int .i32 0, .int .i32 0, .int .i32 0]) 4 16 Tryd.underlying77 I0.out I1.out I2.out I3.out rfl (by decide) _ _ _ rfl (World.ownsRow.alloc HO2.out _) ⟨w2.heap.size, 0, none⟩ 1 1 [.int .i32 1, .int .i32 (k : Int), .int .i32 (k : Int), .int .i32 (q : Int)] rfl rfl ?c1 ?c2 ?c3 ?c4 ?c5 ?_)
          case c1 =>
            intro j u hj
            match j, hj with
            | 0, hj => simp at hj; subst hj; simp [Addr.add_lit, World.cell?_alloc_new]
            | 1, hj => simp at hj; subst hj; simp [Addr.add_lit, World.cell?_alloc_new]
            | 2, hj => simp at hj; subst hj; simp [Addr.add_lit, World.cell?_alloc_new]
            | 3, hj => simp at hj; subst hj; simp [Addr.add_lit, World.cell?_alloc_new]
            | j + 4, hj => simp at hj
          case c2 => simp [Value.oneCell']
          case c3 => unfold maxLen; (try simp)
          case c4 => (try simp)
          case c5 => (try simp); omega
          intro v3 w3 hown3 hgr3 _
          have HAT3 := Lib.hid (show At w3 (w.heap.size + 1) 33 #[.int .i32 (q : Int)] from by
            have h2 := HAT2.out.alloc (.cells #[.int .i32 1, .int .i32 (k : Int), .int .i32 (k : Int), .int .i32 (q : Int)] 321)
            obtain ⟨_, ⟨h, _⟩ | ⟨g', cap', cur, h1, _, h3, _⟩⟩ := HO2.out
            · cases h
            · simp only [Value.slice.injEq, Option.some.injEq, Addr.mk.injEq] at h1
              obtain ⟨⟨rfl, _⟩, _, rfl⟩ := h1
              have hne := atNe HAT2.out h3 (by decide)
              exact (hgr3.block _ h2.lt (by simp [Value.ownBlock]; omega)).trans h2)
          have HB3 := Lib.hid (show Below w.heap.size w w3 from Below.grown (HB2.out.alloc HB2.out.size _) hgr3 (by simp; omega) (fun x hx => (World.ownsRow.lt HO2.out x hx).1))
          obtain ⟨g3, c3, rfl, hg3, _, hc3, cs3, hat3⟩ := ownFull hown3 (by omega)
          have hlg3 := hat3.lt
          have m0 := (World.ownsRow.cellAt hown3 0 (by omega)).trans (by rfl : _ = some (.int .i32 1))
          have m1 := (World.ownsRow.cellAt hown3 1 (by omega)).trans (by rfl : _ = some (.int .i32 0))
          have m2 := (World.ownsRow.cellAt hown3 2 (by omega)).trans (by rfl : _ = some (.int .i32 0))
          have m3 := (World.ownsRow.cellAt hown3 3 (by omega)).trans (by rfl : _ = some (.int .i32 (P : Int)))
          have HO3 := Lib.hid (ownTake (n := 1) (m := 1) hown3 (by rfl))
          have hqk : ((q : Int) - (k : Int) == (P : Int)) = true := by rw [HQK.out]; simp
          clear hat3
          have zb3 := HB3.out.size
          clear hown3 hgr3 c33 l33
          have c33 : w3.cell? ⟨w.heap.size + 1, 0, none⟩ = some (.int .i32 (q : Int)) := by rw [HAT3.out.cell]; rfl
          have l33 := HAT3.out.lt
          have l33a : w.heap.size + 1 < w3.heap.size + 1 := by omega
          go_wp2_with fail
          have HB4 := Lib.hid (show Below w3.heap.size w3 (w3.alloc (.cells #[.int .i32 1, .int .i32 0, .int .i32 0, .int .i32 (P : Int)] 321)) from (Below.refl _ _).alloc (Nat.le_refl _) _)
          obtain ⟨w4, hw4⟩ : ∃ w4, w4 = w3.alloc (.cells #[.int .i32 1, .int .i32 0, .int .i32 0, .int .i32 (P : Int)] 321) := ⟨_, rfl⟩
          rw [← hw4]
          rw [← hw4] at HB4
          clear hw4 m0 m1 m2 m3 c33 l33 l33a
          have HB5 := Lib.hid (HB3.out.trans (HB4.out.mono HB3.out.size))
          refine (Tryd.utf8_DecodeRuneInString _ _ (tabsBelow HT.out HB5.out)).mono ?_
          rintro e w5 ⟨rfl, hb5⟩
          rw [D2.out]
          have HAT5 := Lib.hid ((HAT3.out.below HB4.out HAT3.out.lt).below hb5 (HAT3.out.below HB4.out HAT3.out.lt).lt)
          have HB6 := Lib.hid (HB5.out.trans (hb5.mono HB5.out.size))
          have HO5 := Lib.hid (ownBelow (ownBelow HO3.out HB4.out) hb5)
          clear hb5
          have f33 := HAT5.out.frozen 0
          have c33 : w5.cell? ⟨w.heap.size + 1, 0, none⟩ = some (.int .i32 (q : Int)) := by rw [HAT5.out.cell]; rfl
          have l33 := HAT5.out.lt
          have HNX := Lib.hid (show At (w5.setCell ⟨w.heap.size + 1, 0, none⟩ (.int .i32 ((q + wd : Nat) : Int))) (w.heap.size + 1) 33 #[.int .i32 ((q + wd : Nat) : Int)] from HAT5.out.set 0 _)
          have HNB := Lib.hid (show Below w.heap.size w (w5.setCell ⟨w.heap.size + 1, 0, none⟩ (.int .i32 ((q + wd : Nat) : Int))) from HB6.out.setCell (by simp) _)
          have HNO := Lib.hid (show (w5.setCell ⟨w.heap.size + 1, 0, none⟩ (.int .i32 ((q + wd : Nat) : Int))).ownsRow w.heap.size 321 4 (.slice (some ⟨g3, 0, none⟩) 1 c3) 1 (T4 (P : Int)) from ownKeep0 HO5.out (fun x cs _ hat => Below.heap_setCell _ _ _ x (by have := atNe hat HAT5.out (by decide); simpa using this)))
          go_wp2_with fail
          go_roundw
          case rel => exact ⟨k + wd, q + wd, by go_num, rfl, by go_num, by rw [← HN.out]; exact HKW.out, HQW, HPN, HNX, HNB, .inr ⟨by omega, g3, c3, rfl, HNO⟩⟩
          case measure => simp [intOf]; omega
    · have e : k = n := by omega
      subst e
      have hks : ¬ (k : Int) < (si.size : Int) := by have := HSN.out; omega
      rcases hv with ⟨hk0, _⟩ | ⟨hk0, g, cap, rfl, HO⟩
      · omega
      · go_wp2_with fail
        go_ret
        exact ⟨g, cap, rfl, HO.out, HB.out⟩
end Go.Proofs.YtjlmaingeobgeaaDoor
