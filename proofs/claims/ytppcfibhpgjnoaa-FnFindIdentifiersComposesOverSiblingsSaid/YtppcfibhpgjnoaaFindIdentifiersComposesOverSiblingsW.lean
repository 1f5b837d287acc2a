/- Proved here: the walk of the law FnFindIdentifiersComposesOverSiblings, for every input. -/
import Derived.Test.YtppcfibhpgjnoaaFIB
import Derived.WalkKit
import Derived.WalkSpells
import Derived.WalkLawsBesides
import Derived.Lib.Hide
import Derived.Lib.SliceRun
import Derived.Deep.RegionWith
import Derived.OwnWalk
import Derived.Laws.OwnMore
import Derived.Deep.AppendLies
import Derived.Deep.RegionHeld3
namespace Go.Proofs.Ytppcfibhpgjnoaa.fnFindIdentifiersComposesOverSiblings
open Go.RowKit
set_option linter.unusedSimpArgs false
set_option linter.unusedVariables false

/-- A slice that reads as f at each index below len; nil where len is 0 is let in. -/
theorem opsOf {w : World} {a : Option Addr} {len cap : Nat} {zs : List Int} (h : IsRow .u8 w a len cap zs) : Ops w.heap.size w a len zs := by
  intro hp
  rcases h with ⟨_, rfl, _⟩ | ⟨x, rfl, hl, hm, hz, hcell, _⟩
  · omega
  · obtain ⟨b, off, rfl⟩ := spot_none (hcell 0 (by omega))
    exact ⟨b, off, rfl, by have h0 := hcell 0 (by omega); rw [add_none] at h0; exact World.block_lt_of_cell? _ _ h0, fun i hi => by rw [← add_none]; exact hcell i (by omega)⟩
theorem bytesOf {w : World} {a : Option Addr} {len cap : Nat} {zs : List Int} (h : IsRow .u8 w a len cap zs) : ∀ i, 0 ≤ zs.getD i 0 ∧ zs.getD i 0 ≤ 255 := by
  intro i
  rcases h with ⟨_, rfl, _, rfl⟩ | ⟨x, rfl, hl, hm, hz, hcell, hw⟩
  · simp
  · by_cases hi : i < zs.length
    · exact wf_u8 (hw _ (by simp [List.getD, hi]))
    · simp [List.getD, hi]
/-- A row of the call's own as the walk reads it. -/
theorem ownRead {w : World} {B : Nat} {e : TypeId} {sz : Nat} {v : Value} {n : Nat} {xs : List Value} (h : w.ownsRow B e sz v n xs) (hsz : 0 < sz) : ∃ a c, v = .slice a n c ∧ (0 < n → ∃ g, a = some ⟨g, 0, none⟩ ∧ ∀ i, i < n * sz → w.cell? ⟨g, i, none⟩ = xs[i]?) := by
  have h' := h
  obtain ⟨_, ⟨rfl, rfl⟩ | ⟨g, cap, cur, rfl, _, hg, _⟩⟩ := h
  · exact ⟨none, 0, rfl, fun h => absurd h (by omega)⟩
  · exact ⟨_, cap, rfl, fun _ => ⟨g, rfl, fun i hi => World.ownsRow.cellAt h' i hi⟩⟩
theorem dcells_get (L : List (Nat × Int)) (k : Nat) (h : k < L.length) : (dcells L)[k * 4 + 1]? = some (.int .i32 (L[k]).2) := by
  induction L generalizing k with
  | nil => simp at h
  | cons p L ih =>
    have e : dcells (p :: L) = [.iface 165 (.pointer (some ⟨p.1, 0, none⟩)), .int .i32 p.2, .nilIface, .int .i32 0] ++ dcells L := by simp [dcells]
    cases k with
    | zero => simp [e]
    | succ k =>
      rw [e, List.getElem?_append_right (by simp; omega)]
      have := ih k (by simpa using h)
      simpa [show (k + 1) * 4 + 1 - 4 = k * 4 + 1 by omega] using this
theorem dcells_len (L : List (Nat × Int)) : (dcells L).length = L.length * 4 := by
  induction L with
  | nil => rfl
  | cons p L ih => simp [dcells] at ih ⊢; omega

theorem row_at (L1 L2 : List (Nat × Int)) (k : Nat) (h : k < L1.length + L2.length) : ∃ t : Int, (dcells (L1 ++ L2))[k * 4 + 1]? = some (.int .i32 t) ∧ (k < L1.length → (locs L1)[k]? = some (.int .i32 t)) ∧ (L1.length ≤ k → (locs L2)[k - L1.length]? = some (.int .i32 t)) := by
  refine ⟨((L1 ++ L2)[k]'(by simpa using h)).2, dcells_get _ _ (by simpa using h), fun h1 => ?_, fun h1 => ?_⟩
  · simp [locs, h1, List.getElem_append_left h1]
  · have h2 : k - L1.length < L2.length := by omega
    simp [locs, h2, List.getElem_append_right h1]
def FQ (B : Nat) (W0 : World) (L : List (Nat × Int)) (xs : List Value) (n : Nat) (e : Ending) (w' : World) : Prop := ∃ a c, e = .returned (.slice a n c) ∧ w'.ownsRow B 67 4 (.slice a n c) n xs ∧ Below B W0 w'
set_option maxRecDepth 100000 in
theorem zfi {S : Nat → Prop} {w : World} {d : Value} {l : Int} {L : List (Nat × Int)} (h : FI S w d l L) (hd : IsD d) (W : World) (hW : ∀ b, S b → W.heap[b]? = w.heap[b]?) (base : Nat) (v : Value) (m : Nat) (xs : List Value) (ho : W.ownsRow base 67 4 v m xs) (hn : ∀ b, v.ownBlock = some b → ¬ S b) (hb : base ≤ W.heap.size) (hm : m + L.length ≤ 1048576) :
    Calls Try.prog 17 #[.agg #[d, .int .i32 l], v] W (FIP base W v m xs L) := by
  have hlt : ∀ b, S b → b < W.heap.size := fun b hs => by
    have h1 := h.1 b hs
    have h2 := hW b hs
    rw [Array.getElem?_eq_getElem h1] at h2
    exact (Array.getElem?_eq_some_iff.1 h2).1
  have HC := Lib.hid (fun o => h.2 (W.alloc o) (fun b hs => (Below.heap_alloc W o b (hlt b hs)).trans (hW b hs)) base v m xs (ho.alloc _) hn (by simp; omega) hm)
  obtain ⟨t, bq, rfl⟩ := hd
  clear h hW ho hn hlt
  go_enter Try.func17, Try.ntmps17
  go_wp2_with fail
  refine (HC.out _).mono ?_
  rintro e w1 ⟨v', rfl, h1, h2, h3⟩
  have H1 := Lib.hid h1
  have H2 := Lib.hid (gTrans (gAlloc (gRefl W v.ownBlock) _) h2 (.inl rfl))
  have H3 := Lib.hid (h3.low (W0 := W) (by simp))
  clear h1 h2 h3 HC
  go_wp2_with fail
  go_ret
  exact ⟨v', rfl, H1.out, H2.out, H3.out⟩
/-- The same from a nil slice, over any world that keeps W0. -/
theorem zfiN {S : Nat → Prop} {W0 : World} {d : Value} {l : Int} {L : List (Nat × Int)} (h : FI S W0 d l L) (hd : IsD d) (hm : L.length ≤ 1048576) (W : World) (hW : Below W0.heap.size W0 W) :
    Calls Try.prog 17 #[.agg #[d, .int .i32 l], .slice none 0 0] W (FQ W0.heap.size W0 L (dcells L) L.length) :=
  (zfi h hd W (fun b hb => hW.block b (h.1 b hb)) W0.heap.size (.slice none 0 0) 0 [] (own0 _ _ _ _) (fun b hb => by cases hb) hW.size (by omega)).mono fun e w' ⟨v, h1, h2, h3, _⟩ => by
    obtain ⟨a, c, rfl, _⟩ := ownRead h2 (by omega)
    exact ⟨a, c, by simpa using h1, by simpa using h2, hW.trans (gBelow h3 hW.size (fun k hk => by cases hk))⟩
theorem zfiS {S : Nat → Prop} {W0 : World} {d : Value} {l : Int} {L L0 : List (Nat × Int)} (h : FI S W0 d l L) (hd : IsD d) (hm : L0.length + L.length ≤ 1048576) (W : World) (hW : Below W0.heap.size W0 W) (v : Value) (hv : W.ownsRow W0.heap.size 67 4 v L0.length (dcells L0)) :
    Calls Try.prog 17 #[.agg #[d, .int .i32 l], v] W (FQ W0.heap.size W0 L (dcells (L0 ++ L)) (L0 ++ L).length) :=
  (zfi h hd W (fun b hb => hW.block b (h.1 b hb)) W0.heap.size v L0.length (dcells L0) hv (fun b hb hs => by have := (World.ownsRow.lt hv b hb).1; have := h.1 b hs; omega) hW.size hm).mono fun e w' ⟨v, h1, h2, h3, _⟩ => by
    obtain ⟨a, c, rfl, _⟩ := ownRead h2 (by omega)
    exact ⟨a, c, by simpa using h1, by simpa [dcells_app] using h2, hW.trans (gBelow h3 hW.size (fun k hk => (World.ownsRow.lt hv k hk).1))⟩
set_option maxRecDepth 100000 in
theorem bytes_yes (a0 a1 : Option Addr) (n0 n1 c0 c1 : Nat) (w : World) (h : n0 + n1 ≤ 1048576) :
    Calls Try.prog 15 #[.slice a0 n0 c0, .slice a1 n1 c1] w fun e w' => e = .returned (.bool true) ∧ w = w' := by
  have h0 : n0 ≤ 1048576 := by omega
  have h1 : n1 ≤ 1048576 := by omega
  go_enter Try.func15, Try.ntmps15
  go_wp2_with fail
  go_ret
  exact ⟨rfl, rfl⟩
set_option maxRecDepth 100000 in
theorem bytes_any (a0 a1 : Option Addr) (n0 n1 c0 c1 : Nat) (w : World) (m0 : n0 ≤ maxLen) (m1 : n1 ≤ maxLen) :
    ∃ b : Bool, Calls Try.prog 15 #[.slice a0 n0 c0, .slice a1 n1 c1] w fun e w' => e = .returned (.bool b) ∧ w = w' := by
  unfold maxLen at m0 m1
  by_cases h : n0 + n1 ≤ 1048576
  · exact ⟨true, bytes_yes a0 a1 n0 n1 c0 c1 w h⟩
  · refine ⟨false, ?_⟩
    by_cases h0 : n0 ≤ 1048576
    · by_cases h1 : n1 ≤ 1048576
      · have h2 : decide ((1048576 : Int) < (n0 : Int) + (n1 : Int)) = true := by simp; omega
        go_enter Try.func15, Try.ntmps15
        go_wp2_with fail
        go_ret
        exact ⟨rfl, rfl⟩
      · have h2 : 1048576 < n1 := by omega
        go_enter Try.func15, Try.ntmps15
        go_wp2_with fail
        go_ret
        exact ⟨rfl, rfl⟩
    · have h2 : 1048576 < n0 := by omega
      go_enter Try.func15, Try.ntmps15
      go_wp2_with fail
      go_ret
      exact ⟨rfl, rfl⟩

theorem atNew {w : World} {n : Nat} (h : w.heap.size = n) (t : TypeId) (cs : Array Value) : At (w.alloc (.cells cs t)) n t cs := by subst h; exact At.new w t cs
theorem ownOf {w : World} {g n sz : Nat} {t : TypeId} {cs : Array Value} (h : At w g t cs) (hs : cs.size = n * sz) (hn : n ≤ maxLen) : w.ownsRow 0 t sz (.slice (some ⟨g, 0, none⟩) n n) n cs.toList :=
  ⟨by simpa using hs, .inr ⟨g, n, cs, rfl, Nat.zero_le _, h, Nat.le_refl _, hn, hs, by rw [List.take_of_length_le (by simp; omega)]⟩⟩
theorem two (f : Nat → List (Nat × Int)) : cat f 2 = f 0 ++ f 1 := by simp [cat, List.range_succ]
theorem arr2 {W : World} {S1 S2 : Nat → Prop} {dA dB : Value} {lA lB : Int} {L1 L2 : List (Nat × Int)} (f1 : FI S1 W dA lA L1) (f2 : FI S2 W dB lB L2) (hA : IsD dA) (hB : IsD dB) {g b : Nat} (hg : At W g 54 #[dA, .int .i32 lA, .nilIface, .int .i32 0, .int .i32 0, dB, .int .i32 lB, .nilIface, .int .i32 0, .int .i32 0]) (hb : At W b 57 #[.slice (some ⟨g, 0, none⟩) 2 2, .int .i32 0, .bool false, .bool false]) (l0 : Int) :
    ∃ S, FI S W (.iface 48 (.pointer (some ⟨b, 0, none⟩))) l0 (L1 ++ L2) := by
  have bnd : ∀ k, (S1 k ∨ S2 k ∨ k = g ∨ k = b) → k < W.heap.size := fun k hk => by
    rcases hk with hk | hk | rfl | rfl
    · exact f1.1 k hk
    · exact f2.1 k hk
    · exact hg.lt
    · exact hb.lt
  have h := fiArr (fun k => S1 k ∨ S2 k ∨ k = g ∨ k = b) b g 2 2 l0 _ (fun q => if q = 0 then L1 else L2) 0 #[] W (.inr (.inr (.inr rfl))) (.inr (.inr (.inl rfl))) (by rw [hb.cell]; rfl) (ownOf hg rfl (by unfold maxLen; omega)) ⟨rfl, fun q hq => ?_⟩ bnd (by omega)
  · rw [two] at h; exact ⟨_, h⟩
  · match q, hq with
    | 0, _ => exact ⟨dA, lA, .nilIface, 0, 0, hA, .inl rfl, f1.more (fun _ h => .inl h) bnd, rfl, rfl, rfl, rfl, rfl⟩
    | 1, _ => exact ⟨dB, lB, .nilIface, 0, 0, hB, .inl rfl, f2.more (fun _ h => .inr (.inl h)) bnd, rfl, rfl, rfl, rfl, rfl⟩
theorem obj2 {W : World} {S1 S2 : Nat → Prop} {dA dB : Value} {lA lB : Int} {L1 L2 : List (Nat × Int)} (f1 : FI S1 W dA lA L1) (f2 : FI S2 W dB lB L2) (hA : IsD dA) (hB : IsD dB) {g b : Nat} (hg : At W g 60 #[.nilIface, .int .i32 0, dA, .int .i32 lA, .nilIface, .int .i32 0, .int .i32 0, .int .i32 0, .bool false, .bool false, .bool false, .nilIface, .int .i32 0, dB, .int .i32 lB, .nilIface, .int .i32 0, .int .i32 0, .int .i32 0, .bool false, .bool false, .bool false]) (hb : At W b 63 #[.slice (some ⟨g, 0, none⟩) 2 2, .int .i32 0, .bool false]) (l0 : Int) :
    ∃ S, FI S W (.iface 58 (.pointer (some ⟨b, 0, none⟩))) l0 (L1 ++ L2) := by
  have bnd : ∀ k, (S1 k ∨ S2 k ∨ k = g ∨ k = b) → k < W.heap.size := fun k hk => by
    rcases hk with hk | hk | rfl | rfl
    · exact f1.1 k hk
    · exact f2.1 k hk
    · exact hg.lt
    · exact hb.lt
  have h := fiObj (fun k => S1 k ∨ S2 k ∨ k = g ∨ k = b) b g 2 2 l0 _ (fun q => if q = 0 then L1 else L2) 0 #[] W (.inr (.inr (.inr rfl))) (.inr (.inr (.inl rfl))) (by rw [hb.cell]; rfl) (ownOf hg rfl (by unfold maxLen; omega)) ⟨rfl, fun q hq => ?_⟩ bnd (by omega)
  · rw [two] at h; exact ⟨_, h⟩
  · match q, hq with
    | 0, _ => exact ⟨dA, lA, hA, f1.more (fun _ h => .inl h) bnd, rfl, rfl, rfl, rfl, rfl, rfl, rfl, rfl, rfl, rfl, rfl⟩
    | 1, _ => exact ⟨dB, lB, hB, f2.more (fun _ h => .inr (.inl h)) bnd, rfl, rfl, rfl, rfl, rfl, rfl, rfl, rfl, rfl, rfl, rfl⟩
theorem lenOf {w : World} {a : Option Addr} {len cap : Nat} {zs : List Int} (h : IsRow .u8 w a len cap zs) : len ≤ maxLen := by
  rcases h with ⟨_, rfl, _⟩ | ⟨x, rfl, hl, hm, hz, hcell, _⟩
  · unfold maxLen; omega
  · omega
set_option maxRecDepth 100000 in
set_option maxHeartbeats 8000000 in
theorem walk (a0 : Option Addr) (len0 cap0 : Nat) (z0 : List Int) (a1 : Option Addr) (len1 cap1 : Nat) (z1 : List Int) (w : World) (w0 : IsRow .u8 w a0 len0 cap0 z0) (w1 : IsRow .u8 w a1 len1 cap1 z1) :
    Calls Try.prog 5 #[.slice a0 len0 cap0, .slice a1 len1 cap1] w fun e w' => e = .returned (.bool true) ∧ Below w.heap.size w w' := by
  by_cases hs : len0 ≤ 4096 ∧ len1 ≤ 4096
  · obtain ⟨s0, s1⟩ := hs
    have O0 := Lib.hid (opsOf w0)
    have O1 := Lib.hid (opsOf w1)
    have Z0 := Lib.hid (bytesOf w0)
    have Z1 := Lib.hid (bytesOf w1)
    clear w0 w1
    go_enter Try.func5, Try.ntmps5
    go_wp2_with fail
    refine (bytes_yes _ _ _ _ _ _ _ (by omega)).mono ?_
    rintro e w' ⟨rfl, rfl⟩
    go_wp2_with fail
    refine (dec w.heap.size len0 cap0 a0 z0 0 (by omega) (by omega) s0 Z0.out len0 0 w (.slice none 0 0) 0 [] (by omega) (by omega) O0.out (own0 _ _ _ _) (Nat.le_refl _) (by omega)).mono ?_
    rintro e w1 ⟨dA, lA, pA, S1, la, L1, rfl, ⟨tA, qA, rfl⟩, f1, _, _, hpA, _, hL1, o1, g1, _, _⟩
    have bA := Lib.hid (show Below w.heap.size w w1 from gBelow g1 (Nat.le_refl _) (fun k hk => by cases hk))
    have F1 := Lib.hid f1
    have OW1 := Lib.hid (show w1.ownsRow w.heap.size 21 1 la L1.length (locs L1) by simpa using o1)
    have HL1 : L1.length ≤ 4096 := by omega
    obtain ⟨al, cl, rfl, _⟩ := ownRead OW1.out (by omega)
    clear f1 o1 g1 hL1 hpA
    go_wp2_with fail
    obtain ⟨W2, hW2⟩ : ∃ W, W = w1.alloc (.cells #[.iface tA (.pointer (some ⟨qA, 0, none⟩)), .int .i32 lA] 44) := ⟨_, rfl⟩
    rw [← hW2]
    have B12 : Below w1.heap.size w1 W2 := by rw [hW2]; exact (Below.refl _ _).alloc (Nat.le_refl _) _
    have AA := Lib.hid (show At W2 w1.heap.size 44 #[.iface tA (.pointer (some ⟨qA, 0, none⟩)), .int .i32 lA] from by rw [hW2]; exact At.new _ _ _)
    have B2 := Lib.hid (bel2 bA.out B12)
    have F1' := Lib.hid (F1.out.keep B12.size (fun b hb => B12.block b (F1.out.1 b hb)))
    have OW1' := Lib.hid (ownKeep OW1.out (fun k hk => B12.block k (ownLt OW1.out k hk)))
    have zA : w1.heap.size < W2.heap.size := by rw [hW2]; simp
    clear hW2 B12 F1 OW1 bA
    refine (dec w.heap.size len1 cap1 a1 z1 10000 (by omega) (by omega) s1 Z1.out len1 0 W2 (.slice none 0 0) 0 [] (by omega) (by omega) (O1.out.keep B2.out) (own0 _ _ _ _) B2.out.size (by omega)).mono ?_
    rintro e w3 ⟨dB, lB, pB, S2, lb, L2, rfl, ⟨tB, qB, rfl⟩, f2, _, _, hpB, _, hL2, o2, g2, _, _⟩
    have B23 : Below W2.heap.size W2 w3 := gBelow g2 (Nat.le_refl _) (fun k hk => by cases hk)
    have B3 := Lib.hid (bel2 B2.out B23)
    have F2 := Lib.hid f2
    have OW2 := Lib.hid (show w3.ownsRow w.heap.size 21 1 lb L2.length (locs L2) by simpa using o2)
    have HL2 : L2.length ≤ 4096 := by omega
    obtain ⟨am, cm, rfl, _⟩ := ownRead OW2.out (by omega)
    have F1 := Lib.hid (F1'.out.keep B23.size (fun b hb => B23.block b (F1'.out.1 b hb)))
    have OW1 := Lib.hid (ownKeep OW1'.out (fun k hk => B23.block k (ownLt OW1'.out k hk)))
    have AA3 := AA.out.below B23 zA
    have zA3 : w1.heap.size < w3.heap.size := Nat.lt_of_lt_of_le zA B23.size
    obtain ⟨ra, hra⟩ : ∃ r, r = w1.heap.size := ⟨_, rfl⟩
    rw [← hra] at AA3 zA3 ⊢
    have c0 : w3.cell? ⟨ra, 0, none⟩ = some (.iface tA (.pointer (some ⟨qA, 0, none⟩))) := by rw [AA3.cell]; rfl
    have c1 : w3.cell? ⟨ra, 1, none⟩ = some (.int .i32 lA) := by rw [AA3.cell]; rfl
    clear f2 o2 g2 hL2 hpB F1' OW1' AA B23 hra zA B2 O0 O1 Z0 Z1
    have AA4 := Lib.hid AA3
    clear AA3
    have y1 : ra < w3.heap.size + 1 := by omega
    have y2 : ra < w3.heap.size + 1 + 1 := by omega
    have y3 : ra < w3.heap.size + 1 + 1 + 1 := by omega
    have y4 : ra < w3.heap.size + 1 + 1 + 1 + 1 := by omega
    have y5 : ra < w3.heap.size + 1 + 1 + 1 + 1 + 1 := by omega
    have y6 : ra < w3.heap.size + 1 + 1 + 1 + 1 + 1 + 1 := by omega
    have y7 : ra < w3.heap.size + 1 + 1 + 1 + 1 + 1 + 1 + 1 := by omega
    go_wp2_with fail
    obtain ⟨W7, hW7⟩ : ∃ W, W = ((((((w3.alloc (.cells #[.iface tB (.pointer (some ⟨qB, 0, none⟩)), .int .i32 lB] 44)).alloc (.cells #[.iface tA (.pointer (some ⟨qA, 0, none⟩)), .int .i32 lA, .nilIface, .int .i32 0, .int .i32 0, .iface tB (.pointer (some ⟨qB, 0, none⟩)), .int .i32 lB, .nilIface, .int .i32 0, .int .i32 0] 54)).alloc (.cells #[.slice (some ⟨w3.heap.size + 1, 0, none⟩) 2 2, .int .i32 0, .bool false, .bool false] 57)).alloc (.cells #[.iface 48 (.pointer (some ⟨w3.heap.size + 1 + 1, 0, none⟩)), .int .i32 (-2)] 44)).alloc (.cells #[.nilIface, .int .i32 0, .iface tA (.pointer (some ⟨qA, 0, none⟩)), .int .i32 lA, .nilIface, .int .i32 0, .int .i32 0, .int .i32 0, .bool false, .bool false, .bool false, .nilIface, .int .i32 0, .iface tB (.pointer (some ⟨qB, 0, none⟩)), .int .i32 lB, .nilIface, .int .i32 0, .int .i32 0, .int .i32 0, .bool false, .bool false, .bool false] 60)).alloc (.cells #[.slice (some ⟨w3.heap.size + 1 + 1 + 1 + 1, 0, none⟩) 2 2, .int .i32 0, .bool false] 63)).alloc (.cells #[.iface 58 (.pointer (some ⟨w3.heap.size + 1 + 1 + 1 + 1 + 1, 0, none⟩)), .int .i32 (-3)] 44) := ⟨_, rfl⟩
    rw [← hW7]
    have B37 : Below w3.heap.size w3 W7 := by rw [hW7]; exact (by repeat (first | with_reducible exact Below.refl _ _ | (with_reducible refine Below.drew ?_) | (with_reducible refine Below.alloc ?_ (by simp; try omega) _) | (with_reducible refine Below.setCell ?_ (by simp; try omega) _)))
    have A0 := Lib.hid (show At W7 (w3.heap.size) 44 #[.iface tB (.pointer (some ⟨qB, 0, none⟩)), .int .i32 lB] from by rw [hW7]; exact (((((((atNew (by simp) 44 _).alloc _).alloc _).alloc _).alloc _).alloc _).alloc _))
    have A1 := Lib.hid (show At W7 (w3.heap.size + 1) 54 #[.iface tA (.pointer (some ⟨qA, 0, none⟩)), .int .i32 lA, .nilIface, .int .i32 0, .int .i32 0, .iface tB (.pointer (some ⟨qB, 0, none⟩)), .int .i32 lB, .nilIface, .int .i32 0, .int .i32 0] from by rw [hW7]; exact ((((((atNew (by simp) 54 _).alloc _).alloc _).alloc _).alloc _).alloc _))
    have A2 := Lib.hid (show At W7 (w3.heap.size + 1 + 1) 57 #[.slice (some ⟨w3.heap.size + 1, 0, none⟩) 2 2, .int .i32 0, .bool false, .bool false] from by rw [hW7]; exact (((((atNew (by simp) 57 _).alloc _).alloc _).alloc _).alloc _))
    have A3 := Lib.hid (show At W7 (w3.heap.size + 1 + 1 + 1) 44 #[.iface 48 (.pointer (some ⟨w3.heap.size + 1 + 1, 0, none⟩)), .int .i32 (-2)] from by rw [hW7]; exact ((((atNew (by simp) 44 _).alloc _).alloc _).alloc _))
    have A4 := Lib.hid (show At W7 (w3.heap.size + 1 + 1 + 1 + 1) 60 #[.nilIface, .int .i32 0, .iface tA (.pointer (some ⟨qA, 0, none⟩)), .int .i32 lA, .nilIface, .int .i32 0, .int .i32 0, .int .i32 0, .bool false, .bool false, .bool false, .nilIface, .int .i32 0, .iface tB (.pointer (some ⟨qB, 0, none⟩)), .int .i32 lB, .nilIface, .int .i32 0, .int .i32 0, .int .i32 0, .bool false, .bool false, .bool false] from by rw [hW7]; exact (((atNew (by simp) 60 _).alloc _).alloc _))
    have A5 := Lib.hid (show At W7 (w3.heap.size + 1 + 1 + 1 + 1 + 1) 63 #[.slice (some ⟨w3.heap.size + 1 + 1 + 1 + 1, 0, none⟩) 2 2, .int .i32 0, .bool false] from by rw [hW7]; exact ((atNew (by simp) 63 _).alloc _))
    have A6 := Lib.hid (show At W7 (w3.heap.size + 1 + 1 + 1 + 1 + 1 + 1) 44 #[.iface 58 (.pointer (some ⟨w3.heap.size + 1 + 1 + 1 + 1 + 1, 0, none⟩)), .int .i32 (-3)] from by rw [hW7]; exact (atNew (by simp) 44 _))
    have zz : w3.heap.size + 7 ≤ W7.heap.size := by rw [hW7]; simp
    obtain ⟨fa, HFA⟩ := arr2 (F1.out.keep B37.size (fun b hb => B37.block b (F1.out.1 b hb))) (F2.out.keep B37.size (fun b hb => B37.block b (F2.out.1 b hb))) ⟨_, _, rfl⟩ ⟨_, _, rfl⟩ A1.out A2.out (-2)
    obtain ⟨fo, HFO⟩ := obj2 (F1.out.keep B37.size (fun b hb => B37.block b (F1.out.1 b hb))) (F2.out.keep B37.size (fun b hb => B37.block b (F2.out.1 b hb))) ⟨_, _, rfl⟩ ⟨_, _, rfl⟩ A4.out A5.out (-3)
    have FA := Lib.hid HFA
    have FO := Lib.hid HFO
    have F17 := Lib.hid (F1.out.keep B37.size (fun b hb => B37.block b (F1.out.1 b hb)))
    have F27 := Lib.hid (F2.out.keep B37.size (fun b hb => B37.block b (F2.out.1 b hb)))
    have OW17 := Lib.hid (ownKeep OW1.out (fun k hk => B37.block k (ownLt OW1.out k hk)))
    have OW27 := Lib.hid (ownKeep OW2.out (fun k hk => B37.block k (ownLt OW2.out k hk)))
    have B7 := Lib.hid (bel2 B3.out B37)
    have AA7 := Lib.hid (AA4.out.below B37 zA3)
    obtain ⟨rb, hrb⟩ : ∃ r, r = w3.heap.size := ⟨_, rfl⟩
    rw [← hrb] at A0 A1 A2 A3 A4 A5 A6 zz FA FO ⊢
    have zA7 : ra < W7.heap.size := by omega
    clear hW7 HFA HFO F1 F2 OW1 OW2 B3 AA4 A1 A2 A4 A5 hrb B37 y1 y2 y3 y4 y5 y6 y7 c0 c1
    refine (zfiN FA.out ⟨_, _, rfl⟩ (by simp; omega) W7 (Below.refl _ _)).mono ?_
    rintro e w8 ⟨a3, c3, rfl, o3, b8⟩
    have FO8 := Lib.hid (FO.out.keep b8.size (fun b hb => b8.block b (FO.out.1 b hb)))
    have F18 := Lib.hid (F17.out.keep b8.size (fun b hb => b8.block b (F17.out.1 b hb)))
    have F28 := Lib.hid (F27.out.keep b8.size (fun b hb => b8.block b (F27.out.1 b hb)))
    have OW18 := Lib.hid (ownKeep OW17.out (fun k hk => b8.block k (ownLt OW17.out k hk)))
    have OW28 := Lib.hid (ownKeep OW27.out (fun k hk => b8.block k (ownLt OW27.out k hk)))
    have B8 := Lib.hid (bel2 B7.out b8)
    have AA8 := Lib.hid (AA7.out.below b8 zA7)
    have A08 := Lib.hid (A0.out.below b8 (by omega))
    have A68 := Lib.hid (A6.out.below b8 (by omega))
    have O3 := Lib.hid o3
    have p80 : w8.cell? ⟨ra, 0, none⟩ = some (.iface tA (.pointer (some ⟨qA, 0, none⟩))) := by rw [AA8.out.cell]; rfl
    have p81 : w8.cell? ⟨ra, 1, none⟩ = some (.int .i32 lA) := by rw [AA8.out.cell]; rfl
    have q80 : w8.cell? ⟨rb, 0, none⟩ = some (.iface tB (.pointer (some ⟨qB, 0, none⟩))) := by rw [A08.out.cell]; rfl
    have q81 : w8.cell? ⟨rb, 1, none⟩ = some (.int .i32 lB) := by rw [A08.out.cell]; rfl
    have e80 : w8.cell? ⟨rb + 1 + 1 + 1 + 1 + 1 + 1, 0, none⟩ = some (.iface 58 (.pointer (some ⟨rb + 1 + 1 + 1 + 1 + 1, 0, none⟩))) := by rw [A68.out.cell]; rfl
    have e81 : w8.cell? ⟨rb + 1 + 1 + 1 + 1 + 1 + 1, 1, none⟩ = some (.int .i32 (-3)) := by rw [A68.out.cell]; rfl
    have zz8 : rb + 7 ≤ w8.heap.size := Nat.le_trans zz b8.size
    have zA8 : ra < w8.heap.size := Nat.lt_of_lt_of_le zA7 b8.size
    have y1 : rb + 1 + 1 + 1 + 1 + 1 + 1 < w8.heap.size := by omega
    clear FA FO F17 F27 OW17 OW27 B7 AA7 A0 A3 A6 zz zA7 o3 b8
    go_wp2_with fail
    refine (zfiN FO8.out ⟨_, _, rfl⟩ (by simp; omega) w8 (Below.refl _ _)).mono ?_
    rintro e W ⟨a4, c4, rfl, o4, b9⟩
    have F1 := Lib.hid (F18.out.keep b9.size (fun b hb => b9.block b (F18.out.1 b hb)))
    have F2 := Lib.hid (F28.out.keep b9.size (fun b hb => b9.block b (F28.out.1 b hb)))
    have OW1 := Lib.hid (ownKeep OW18.out (fun k hk => b9.block k (ownLt OW18.out k hk)))
    have OW2 := Lib.hid (ownKeep OW28.out (fun k hk => b9.block k (ownLt OW28.out k hk)))
    have B9 := Lib.hid (bel2 B8.out b9)
    have AA9 := AA8.out.below b9 zA8
    have A09 := A08.out.below b9 (by omega)
    have O39 := Lib.hid (ownKeep O3.out (fun k hk => b9.block k (ownLt O3.out k hk)))
    have O49 := Lib.hid o4
    have m0 : W.cell? ⟨ra, 0, none⟩ = some (.iface tA (.pointer (some ⟨qA, 0, none⟩))) := by rw [AA9.cell]; rfl
    have m1 : W.cell? ⟨ra, 1, none⟩ = some (.int .i32 lA) := by rw [AA9.cell]; rfl
    have n0 : W.cell? ⟨rb, 0, none⟩ = some (.iface tB (.pointer (some ⟨qB, 0, none⟩))) := by rw [A09.cell]; rfl
    have n1 : W.cell? ⟨rb, 1, none⟩ = some (.int .i32 lB) := by rw [A09.cell]; rfl
    have zz9 : rb + 7 ≤ W.heap.size := Nat.le_trans zz8 b9.size
    have zA9 : ra < W.heap.size := Nat.lt_of_lt_of_le zA8 b9.size
    have yb : rb < W.heap.size := by omega
    have CA := Lib.hid (show ∀ W', Below W.heap.size W W' → Calls Try.prog 17 #[.agg #[.iface tA (.pointer (some ⟨qA, 0, none⟩)), .int .i32 lA], .slice none 0 0] W' (FQ W.heap.size W L1 (dcells L1) L1.length) from fun W' hW => zfiN F1.out ⟨_, _, rfl⟩ (by omega) W' hW)
    have CB := Lib.hid (show ∀ W' v, Below W.heap.size W W' → W'.ownsRow W.heap.size 67 4 v L1.length (dcells L1) → Calls Try.prog 17 #[.agg #[.iface tB (.pointer (some ⟨qB, 0, none⟩)), .int .i32 lB], v] W' (FQ W.heap.size W L2 (dcells (L1 ++ L2)) (L1 ++ L2).length) from fun W' v hW hv => zfiS F2.out ⟨_, _, rfl⟩ (by omega) W' hW v hv)
    clear FO8 F18 F28 OW18 OW28 B8 AA8 A08 A68 o4 b9 O3 AA9 A09 F1 F2 e80 e81 y1 zz8 zA8 p80 p81 q80 q81
    go_wp2_with fail
    go_region_with (first | (go_at_call_of 17 (Value.agg #[.iface tA (.pointer (some ⟨qA, 0, none⟩)), .int .i32 lA]); (with_reducible refine Calls.mono (CA.out _ ?hba) ?_); (case hba => with_reducible first | exact Below.refl _ _ | exact (Below.refl _ _).drew); rintro e wa ⟨aA, cA, rfl, oA, hb9⟩; have km0 := kept hb9 (by first | exact m0 | exact kDrew m0); have km1 := kept hb9 (by first | exact m1 | exact kDrew m1); have kn0 := kept hb9 (by first | exact n0 | exact kDrew n0); have kn1 := kept hb9 (by first | exact n1 | exact kDrew n1); have HOA := Lib.hid oA; clear oA) | (go_at_call_of 17 (Value.agg #[.iface tB (.pointer (some ⟨qB, 0, none⟩)), .int .i32 lB]); (with_reducible refine Calls.mono (CB.out _ _ ?hbb ?hvb) ?_); (case hbb => with_reducible first | exact hb9 | exact hb9.drew); (case hvb => with_reducible first | exact HOA.out | exact HOA.out.drew); rintro e wb ⟨aB, cB, rfl, oB, hbb⟩))
    all_goals
      obtain ⟨N1, hn1⟩ : ∃ n, n = L1.length := ⟨_, rfl⟩
      obtain ⟨N2, hn2⟩ : ∃ n, n = L2.length := ⟨_, rfl⟩
      rw [List.length_append] at O39 O49 oB
      try rw [List.length_append]
      rw [← hn1] at OW1 HL1 O39 O49 oB ⊢
      rw [← hn2] at OW2 HL2 O39 O49 oB ⊢
      have HX := Lib.hid (show ∀ k, k < N1 + N2 → ∃ t : Int, (dcells (L1 ++ L2))[k * 4 + 1]? = some (.int .i32 t) ∧ (k < N1 → (locs L1)[k]? = some (.int .i32 t)) ∧ (N1 ≤ k → (locs L2)[k - N1]? = some (.int .i32 t)) from fun k hk => row_at L1 L2 k (by omega) |>.imp fun t ht => by rw [hn1]; exact ht)
      have R1 := Lib.hid (ownRead (ownKeep OW1.out (fun k hk => hbb.block k (ownLt OW1.out k hk))) (by omega))
      have R2 := Lib.hid (ownRead (ownKeep OW2.out (fun k hk => hbb.block k (ownLt OW2.out k hk))) (by omega))
      have R3 := Lib.hid (ownRead (ownKeep O39.out (fun k hk => hbb.block k (ownLt O39.out k hk))) (by omega))
      have R4 := Lib.hid (ownRead (ownKeep O49.out (fun k hk => hbb.block k (ownLt O49.out k hk))) (by omega))
      have R5 := Lib.hid (ownRead oB (by omega))
      have BE := Lib.hid (bel2 B9.out hbb)
      clear hn1 hn2 OW1 OW2 O39 O49 oB hbb B9 HOA hb9 CA CB m0 m1 n0 n1 km0 km1 kn0 kn1
      go_wp2_with fail
      go_loop [17] (fun i => ∃ k : Nat, k ≤ N1 + N2 ∧ i = .int .i64 k) (fun i => N1 + N2 - (intOf i).toNat)
      case atStart => exact ⟨0, Nat.zero_le _, rfl⟩
      case round =>
        obtain ⟨k, hk, rfl⟩ := hrel
        by_cases hlt : k < N1 + N2
        · obtain ⟨t, t3, t1, t2⟩ := HX.out k hlt
          obtain ⟨x3, y3, e3, r3⟩ := R3.out
          obtain ⟨x4, y4, e4, r4⟩ := R4.out
          obtain ⟨x5, y5, e5, r5⟩ := R5.out
          simp only [Value.slice.injEq, true_and] at e3 e4 e5
          obtain ⟨rfl, rfl⟩ := e3
          obtain ⟨rfl, rfl⟩ := e4
          obtain ⟨rfl, rfl⟩ := e5
          obtain ⟨g3, rfl, d3⟩ := r3 (by omega)
          obtain ⟨g4, rfl, d4⟩ := r4 (by omega)
          obtain ⟨g5, rfl, d5⟩ := r5 (by omega)
          have f3 := (d3 (k * 4 + 1) (by omega)).trans t3
          have f4 := (d4 (k * 4 + 1) (by omega)).trans t3
          have f5 := (d5 (k * 4 + 1) (by omega)).trans t3
          have l3 := World.block_lt_of_cell? _ _ f3
          have l4 := World.block_lt_of_cell? _ _ f4
          have l5 := World.block_lt_of_cell? _ _ f5
          clear d3 d4 d5 r3 r4 r5 t3
          by_cases hk1 : k < N1
          · obtain ⟨x1, y1, e1, r1⟩ := R1.out
            simp only [Value.slice.injEq, true_and] at e1
            obtain ⟨rfl, rfl⟩ := e1
            obtain ⟨g1, rfl, d1⟩ := r1 (by omega)
            have f1 := (d1 k (by omega)).trans (t1 hk1)
            have l1 := World.block_lt_of_cell? _ _ f1
            clear d1 r1 t1 t2
            go_wp2_with fail
            go_round
            case rel => exact ⟨k + 1, by omega, by go_num⟩
            case measure => simp [intOf]; omega
          · obtain ⟨x2, y2, e2, r2⟩ := R2.out
            simp only [Value.slice.injEq, true_and] at e2
            obtain ⟨rfl, rfl⟩ := e2
            obtain ⟨g2, rfl, d2⟩ := r2 (by omega)
            have f2 := (d2 (k - N1) (by omega)).trans (t2 (by omega))
            have l2 := World.block_lt_of_cell? _ _ f2
            have hk2 : N1 ≤ k := by omega
            clear d2 r2 t1 t2
            go_wp2_with fail
            go_round
            case rel => exact ⟨k + 1, by omega, by go_num⟩
            case measure => simp [intOf]; omega
        · obtain rfl : k = N1 + N2 := by omega
          go_wp2_with fail
          go_ret
          exact ⟨rfl, BE.out⟩
  · obtain ⟨b, hb⟩ := bytes_any a0 a1 len0 len1 cap0 cap1 w (lenOf w0) (lenOf w1)
    have m0 := lenOf w0
    have m1 := lenOf w1
    unfold maxLen at m0 m1
    have HB := Lib.hid hb
    clear hb w0 w1
    by_cases h0 : len0 ≤ 4096
    · have h1 : 4096 < len1 := by omega
      go_enter Try.func5, Try.ntmps5
      go_wp2_with fail
      refine HB.out.mono ?_
      rintro e w' ⟨rfl, rfl⟩
      cases b <;> (go_wp2_with fail; go_ret; exact ⟨rfl, Below.refl _ _⟩)
    · have h1 : 4096 < len0 := by omega
      go_enter Try.func5, Try.ntmps5
      go_wp2_with fail
      refine HB.out.mono ?_
      rintro e w' ⟨rfl, rfl⟩
      cases b <;> (go_wp2_with fail; go_ret; exact ⟨rfl, Below.refl _ _⟩)
end Go.Proofs.Ytppcfibhpgjnoaa.fnFindIdentifiersComposesOverSiblings
