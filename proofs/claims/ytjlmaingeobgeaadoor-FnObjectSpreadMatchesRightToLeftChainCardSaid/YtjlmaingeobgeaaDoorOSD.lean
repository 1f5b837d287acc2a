/- Proved here: what objects and chains are; the contract of objHolds. Conditions as stated. -/
import Derived.Test.YtjlmaingeobgeaaDoorOSC
import Derived.WalkKit
import Derived.WalkSpells
import Derived.WalkLawsBesides
import Derived.Lib.Hide
import Derived.Lib.SliceRun
import Derived.Deep.RegionWith
import Derived.OwnWalk
import Derived.Laws.OwnMore
import Derived.BigRegion
import Derived.Deep.RegionHeld3
import Derived.Carry
namespace Go.Proofs.YtjlmaingeobgeaaDoor
open Go.RowKit
set_option linter.unusedSimpArgs false
set_option linter.unusedVariables false

def kd (s : Bool) : Int := if s then 5 else 0
def prp (q : Nat) (k : Int) : List Value := [.pointer none, .nilIface, .int .i32 0, .iface 212 (.pointer (some ⟨q, 0, none⟩)), .int .i32 0, .nilIface, .int .i32 0, .slice none 0 0, .int .i32 0, .int .i32 0, .int .u8 k, .int .u8 0]
/-- The cells of the numbers' properties from lo on. -/
def rowQ (q : Nat → Nat) (lo : Nat) : Nat → List Value
  | 0 => []
  | n + 1 => rowQ q lo n ++ prp (q (lo + n)) 0
theorem rowQ_len (q : Nat → Nat) (lo n : Nat) : (rowQ q lo n).length = n * 12 := by
  induction n with
  | zero => rfl
  | succ n ih => rw [rowQ, List.length_append, ih]; simp [prp]; omega
theorem rowQ_get (q : Nat → Nat) (lo n i t : Nat) (hi : i < n) (ht : t < 12) : (rowQ q lo n)[i * 12 + t]? = (prp (q (lo + i)) 0)[t]? := by
  induction n with
  | zero => omega
  | succ n ih =>
    rw [rowQ]
    by_cases h : i < n
    · rw [List.getElem?_append_left (by rw [rowQ_len]; omega)]
      exact ih h
    · have e : i = n := by omega
      subst e
      rw [List.getElem?_append_right (by rw [rowQ_len]; omega), rowQ_len, show i * 12 + t - i * 12 = t from by omega]
/-- The object at eo holds the n numbers from lo on. -/
def OB (w : World) (D : Nat → Prop) (eo : Nat) (sl : Bool) (q : Nat → Nat) (lo n : Nat) : Prop :=
  D eo ∧ ∃ (v : Value) (c1 c2 : Int) (c4 : Bool), At w eo 71 #[v, .int .i32 c1, .int .i32 c2, .bool sl, .bool c4] ∧ w.ownsRow 0 231 12 v n (rowQ q lo n) ∧ (∀ g, v.ownBlock = some g → D g)
theorem ownKeep0 {w w' : World} {B : Nat} {e : TypeId} {sz : Nat} {v : Value} {n : Nat} {xs : List Value} (h : w.ownsRow B e sz v n xs) (hk : ∀ g cs, v.ownBlock = some g → At w g e cs → w'.heap[g]? = w.heap[g]?) : w'.ownsRow B e sz v n xs := by
  obtain ⟨h0, h | ⟨g, cap, cur, h1, h2, h3, h4⟩⟩ := h
  · exact ⟨h0, .inl h⟩
  · exact ⟨h0, .inr ⟨g, cap, cur, h1, h2, (hk g cur (by rw [h1]; rfl) h3).trans h3, h4⟩⟩
theorem ownShape {w : World} {B : Nat} {e : TypeId} {sz : Nat} {v : Value} {n : Nat} {xs : List Value} (h : w.ownsRow B e sz v n xs) : ∃ a c, v = .slice a n c := by
  obtain ⟨h0, ⟨h, hn⟩ | ⟨g, cap, cur, h1, h2, h3, h4⟩⟩ := h
  · subst hn; exact ⟨_, _, h⟩
  · exact ⟨_, _, h1⟩
theorem ownLow {w : World} {B B' : Nat} {e : TypeId} {sz : Nat} {v : Value} {n : Nat} {xs : List Value} (h : w.ownsRow B e sz v n xs) (hB : B' ≤ B) : w.ownsRow B' e sz v n xs := by
  obtain ⟨h0, h | ⟨g, cap, cur, h1, h2, h3⟩⟩ := h
  · exact ⟨h0, .inl h⟩
  · exact ⟨h0, .inr ⟨g, cap, cur, h1, by omega, h3⟩⟩
theorem OB.fr {w w' : World} {D D' : Nat → Prop} {s eo : Nat} {sl : Bool} {q : Nat → Nat} {lo n : Nat} (h : OB w D eo sl q lo n) (hs : ∃ cs, At w s 355 cs) (hk : ∀ k, D k → k ≠ s → w'.heap[k]? = w.heap[k]?) (hD : ∀ k, D k → D' k) : OB w' D' eo sl q lo n := by
  obtain ⟨h0, v, c1, c2, c4, h1, h2, h3⟩ := h
  obtain ⟨cs, hs⟩ := hs
  refine ⟨hD _ h0, v, c1, c2, c4, (hk eo h0 (atNe h1 hs (by decide))).trans h1, ownKeep0 h2 (fun g cs' hg hat => hk g (h3 g hg) (atNe hat hs (by decide))), fun g hg => hD _ (h3 g hg)⟩
inductive CH (w : World) (D : Nat → Prop) (sl : Bool) (q : Nat → Nat) (sp : Nat → Bool) (l : Int) : TypeId → Nat → Nat → Prop
  | base (e n : Nat) (h1 : ∀ j, j < n → sp j = false) (h2 : OB w D e sl q 0 n) : CH w D sl q sp l 59 e n
  | spread (e0 n : Nat) (T : TypeId) (e' i ab : Nat) (h1 : sp n = true) (h2 : D e0 ∧ D i ∧ D ab) (h3 : HC w e0 0 (.iface T (.pointer (some ⟨e', 0, none⟩))) l (.iface 212 (.pointer (some ⟨q n, 0, none⟩))) 0 i ab) (h4 : CH w D sl q sp l T e' n) : CH w D sl q sp l 312 e0 (n + 1)
  | props (e0 m n : Nat) (T : TypeId) (e' eo i ab : Nat) (h0 : 0 < m ∧ m < n) (h1 : sp (m - 1) = true) (h1' : ∀ j, m ≤ j → j < n → sp j = false) (h2 : D e0 ∧ D i ∧ D ab) (h3 : HC w e0 1 (.iface T (.pointer (some ⟨e', 0, none⟩))) l (.iface 59 (.pointer (some ⟨eo, 0, none⟩))) l i ab) (h5 : OB w D eo sl q m (n - m)) (h4 : CH w D sl q sp l T e' m) : CH w D sl q sp l 312 e0 n
theorem HC.fr {w w' : World} {D : Nat → Prop} {s e0 r : Nat} {d0 : Value} {x0 : Int} {d1 : Value} {x1 : Int} {i ab : Nat} (h : HC w e0 r d0 x0 d1 x1 i ab) (h2 : D e0 ∧ D i ∧ D ab) (hs : ∃ cs, At w s 355 cs) (hk : ∀ k, D k → k ≠ s → w'.heap[k]? = w.heap[k]?) : HC w' e0 r d0 x0 d1 x1 i ab := by
  obtain ⟨⟨l0, h3⟩, h4, h5⟩ := h
  obtain ⟨cs, hs⟩ := hs
  exact ⟨⟨l0, (hk _ h2.1 (atNe h3 hs (by decide))).trans h3⟩, (hk _ h2.2.1 (atNe h4 hs (by decide))).trans h4, (hk _ h2.2.2 (atNe h5 hs (by decide))).trans h5⟩
theorem CH.fr {w w' : World} {D D' : Nat → Prop} {s : Nat} {sl : Bool} {q : Nat → Nat} {sp : Nat → Bool} {l : Int} {T : TypeId} {e n : Nat} (h : CH w D sl q sp l T e n) (hs : ∃ cs, At w s 355 cs) (hk : ∀ k, D k → k ≠ s → w'.heap[k]? = w.heap[k]?) (hD : ∀ k, D k → D' k) : CH w' D' sl q sp l T e n := by
  induction h with
  | base e n h1 h2 => exact .base e n h1 (h2.fr hs hk hD)
  | spread e0 n T e' i ab h1 h2 h3 h4 ih => exact .spread e0 n T e' i ab h1 ⟨hD _ h2.1, hD _ h2.2.1, hD _ h2.2.2⟩ (h3.fr h2 hs hk) ih
  | props e0 m n T e' eo i ab h0 h1 h1' h2 h3 h5 h4 ih => exact .props e0 m n T e' eo i ab h0 h1 h1' ⟨hD _ h2.1, hD _ h2.2.1, hD _ h2.2.2⟩ (h3.fr h2 hs hk) (h5.fr hs hk hD) ih
/-- The row of the numbers. -/
def NR (w : World) (nb N : Nat) (q : Nat → Nat) : Prop := ∀ j, j < N → w.cell? ⟨nb, j, none⟩ = some (.pointer (some ⟨q j, 0, none⟩))
theorem NR.below {w w' : World} {nb N : Nat} {q : Nat → Nat} (h : NR w nb N q) (hb : Below w.heap.size w w') : NR w' nb N q := fun j hj => kept hb (h j hj)
def OL (n : Nat) (xlo : Int) (w : World) (i : Value) (wr : World) : Prop := ∃ (k : Nat) (y : Int), k ≤ n ∧ i = .int .i64 y ∧ Hid (y = xlo + (k : Int)) ∧ (0 ≤ y ∧ y ≤ 2000000) ∧ Hid (Below w.heap.size w wr)
set_option maxRecDepth 100000 in
set_option maxHeartbeats 4000000 in
theorem oHolds (D : Nat → Prop) (eo nb N lo n : Nat) (q : Nat → Nat) (sl : Bool) (l xlo xhi : Int) (w : World) (h1 : xlo = (lo : Int)) (h2 : xhi = ((lo + n : Nat) : Int)) (hle : lo + n ≤ N) (hN : N ≤ 1000000) (h : OB w D eo sl q lo n) (hn : NR w nb N q) :
    Calls Tryd.prog 59 #[.agg #[.iface 59 (.pointer (some ⟨eo, 0, none⟩)), .int .i32 l], .slice (some ⟨nb, 0, none⟩) N N, .int .i64 xlo, .int .i64 xhi, .bool sl, .int .i32 l] w fun e w' => e = .returned (.bool true) ∧ Below w.heap.size w w' := by
  obtain ⟨_, v, c1, c2, c4, hat, hown, _⟩ := h
  obtain ⟨va, vc, rfl⟩ := ownShape hown
  have hd : xhi - xlo = (n : Int) := by omega
  have b1 : 0 ≤ xlo ∧ xlo ≤ 1000000 := by omega
  have b2 : 0 ≤ xhi ∧ xhi ≤ 1000000 := by omega
  obtain ⟨b1a, b1b⟩ := b1
  obtain ⟨b2a, b2b⟩ := b2
  have HAT := Lib.hid hat
  have HOWN := Lib.hid hown
  have HN := Lib.hid hn
  have H1 := Lib.hid h1
  have H2 := Lib.hid h2
  have lo0 := hat.lt
  clear hat hown hn h1 h2
  go_enter Tryd.func59, Tryd.ntmps59
  go_wp2_with fail
  refine (asObj eo l _).mono ?_
  rintro e w1 ⟨rfl, hb⟩
  have HB := Lib.hid (show Below w.heap.size w w1 from ((Below.refl _ w).alloc (Nat.le_refl _) _).trans (hb.mono (by simp)))
  have x61 : w1.cell? ⟨w.heap.size, 1, none⟩ = some (.int .i32 l) := kept hb (by rw [(At.new w 35 #[.iface 59 (.pointer (some ⟨eo, 0, none⟩)), .int .i32 l]).cell]; rfl)
  have A1 := HAT.out.below HB.out lo0
  have o0 : w1.cell? ⟨eo, 0, none⟩ = some (.slice va n vc) := by rw [A1.cell]; rfl
  have o3 : w1.cell? ⟨eo, 3, none⟩ = some (.bool sl) := by rw [A1.cell]; rfl
  have lw := World.block_lt_of_cell? _ _ x61
  have lo1 := A1.lt
  have HA1 := Lib.hid A1
  clear hb A1
  go_wp2_with fail
  go_loopw [14] (fun i wr => OL n xlo w i wr) (fun i _ => xhi.toNat - (intOf i).toNat)
  case atStart => exact ⟨0, xlo, Nat.zero_le _, rfl, Lib.hid (by simp), ⟨b1a, by omega⟩, HB⟩
  case round =>
    obtain ⟨k, y, hk, rfl, HY, ⟨y0, y1⟩, HBr⟩ := hrel
    clear x61 o0 o3
    by_cases hlt : k < n
    · have hyx : y < xhi := by have := HY.out; omega
      have hyk : y - xlo = (k : Int) := by have := HY.out; omega
      have hyN : y < (N : Int) := by have := HY.out; have := H1.out; omega
      have Ar := HAT.out.below HBr.out lo0
      have o0 : wr.cell? ⟨eo, 0, none⟩ = some (.slice va n vc) := by rw [Ar.cell]; rfl
      have lor := Ar.lt
      have cn : wr.cell? ⟨nb, y.toNat, none⟩ = some (.pointer (some ⟨q (lo + k), 0, none⟩)) := by
        have e : y.toNat = lo + k := by have := HY.out; have := H1.out; omega
        rw [e]
        exact kept HBr.out (HN.out (lo + k) (by omega))
      have hrow : ∃ g, va = some ⟨g, 0, none⟩ ∧ g < w.heap.size ∧ ∀ t, t < 12 → w.cell? ⟨g, k * 12 + t, none⟩ = (prp (q (lo + k)) 0)[t]? := by
        have hr := HOWN.out
        obtain ⟨hl, ⟨e1, e2⟩ | ⟨g, cap, cur, e1, h1, h2, h3⟩⟩ := id hr
        · exact absurd e2 (by omega)
        · simp only [Value.slice.injEq] at e1
          obtain ⟨rfl, _, rfl⟩ := e1
          refine ⟨g, rfl, (Array.getElem?_eq_some_iff.1 h2).1, fun t ht => ?_⟩
          rw [World.ownsRow.cellAt hr (k * 12 + t) (by omega)]
          exact rowQ_get q lo n k t hlt ht
      obtain ⟨g, rfl, lg, hcg⟩ := hrow
      have g0 : wr.cell? ⟨g, k * 12, none⟩ = some (.pointer none) := kept HBr.out (by have := hcg 0 (by omega); simpa [prp] using this)
      have g1 : wr.cell? ⟨g, k * 12 + 1, none⟩ = some (.nilIface) := kept HBr.out (by have := hcg 1 (by omega); simpa [prp] using this)
      have g2 : wr.cell? ⟨g, k * 12 + 2, none⟩ = some (.int .i32 0) := kept HBr.out (by have := hcg 2 (by omega); simpa [prp] using this)
      have g3 : wr.cell? ⟨g, k * 12 + 3, none⟩ = some (.iface 212 (.pointer (some ⟨q (lo + k), 0, none⟩))) := kept HBr.out (by have := hcg 3 (by omega); simpa [prp] using this)
      have g4 : wr.cell? ⟨g, k * 12 + 4, none⟩ = some (.int .i32 0) := kept HBr.out (by have := hcg 4 (by omega); simpa [prp] using this)
      have g5 : wr.cell? ⟨g, k * 12 + 5, none⟩ = some (.nilIface) := kept HBr.out (by have := hcg 5 (by omega); simpa [prp] using this)
      have g6 : wr.cell? ⟨g, k * 12 + 6, none⟩ = some (.int .i32 0) := kept HBr.out (by have := hcg 6 (by omega); simpa [prp] using this)
      have g7 : wr.cell? ⟨g, k * 12 + 7, none⟩ = some (.slice none 0 0) := kept HBr.out (by have := hcg 7 (by omega); simpa [prp] using this)
      have g8 : wr.cell? ⟨g, k * 12 + 8, none⟩ = some (.int .i32 0) := kept HBr.out (by have := hcg 8 (by omega); simpa [prp] using this)
      have g9 : wr.cell? ⟨g, k * 12 + 9, none⟩ = some (.int .i32 0) := kept HBr.out (by have := hcg 9 (by omega); simpa [prp] using this)
      have g10 : wr.cell? ⟨g, k * 12 + 10, none⟩ = some (.int .u8 0) := kept HBr.out (by have := hcg 10 (by omega); simpa [prp] using this)
      have g11 : wr.cell? ⟨g, k * 12 + 11, none⟩ = some (.int .u8 0) := kept HBr.out (by have := hcg 11 (by omega); simpa [prp] using this)
      have lgr := World.block_lt_of_cell? _ _ g0
      have lnr := World.block_lt_of_cell? _ _ cn
      obtain ⟨Q, hQ⟩ : ∃ Q, Q = q (lo + k) := ⟨_, rfl⟩
      simp only [← hQ] at cn g3
      clear hcg hQ HA1
      go_wp2_with fail
      obtain ⟨V, hV⟩ : ∃ V, V = wr.alloc (.cells #[.pointer none, .nilIface, .int .i32 0, .iface 212 (.pointer (some ⟨Q, 0, none⟩)), .int .i32 0, .nilIface, .int .i32 0, .slice none 0 0, .int .i32 0, .int .i32 0, .int .u8 0, .int .u8 0] 231) := ⟨_, rfl⟩
      rw [← hV]
      have AV : At V wr.heap.size 231 #[.pointer none, .nilIface, .int .i32 0, .iface 212 (.pointer (some ⟨Q, 0, none⟩)), .int .i32 0, .nilIface, .int .i32 0, .slice none 0 0, .int .i32 0, .int .i32 0, .int .u8 0, .int .u8 0] := by rw [hV]; exact At.new _ _ _
      have HBV := Lib.hid (show Below w.heap.size w V from by rw [hV]; exact HBr.out.alloc HBr.out.size _)
      have v10 : V.cell? ⟨wr.heap.size, 10, none⟩ = some (.int .u8 0) := by rw [AV.cell]; rfl
      have v3 : V.cell? ⟨wr.heap.size, 3, none⟩ = some (.iface 212 (.pointer (some ⟨Q, 0, none⟩))) := by rw [AV.cell]; rfl
      have v4 : V.cell? ⟨wr.heap.size, 4, none⟩ = some (.int .i32 0) := by rw [AV.cell]; rfl
      have vn : V.cell? ⟨nb, y.toNat, none⟩ = some (.pointer (some ⟨Q, 0, none⟩)) := by rw [hV]; exact kAlloc cn
      have lV := AV.lt
      have lnV := World.block_lt_of_cell? _ _ vn
      clear hV AV g0 g1 g2 g3 g4 g5 g6 g7 g8 g9 g10 g11 cn o0
      go_region_held3 (fun w' => w'.cell? ⟨wr.heap.size, 10, none⟩ = some (.int .u8 0) ∧ w'.cell? ⟨wr.heap.size, 3, none⟩ = some (.iface 212 (.pointer (some ⟨Q, 0, none⟩))) ∧ w'.cell? ⟨wr.heap.size, 4, none⟩ = some (.int .i32 0) ∧ w'.cell? ⟨nb, y.toNat, none⟩ = some (.pointer (some ⟨Q, 0, none⟩))) (repeat' (first | (refine And.intro ?_ ?_) | with_reducible assumption | apply kAlloc | apply kDrew | (refine kSet ?_ (by omega)))) (first
        | (go_at_call 58; (with_reducible refine Calls.mono (asNum Q 0 _) ?_); rintro e Y ⟨rfl, hbY⟩; have hbV : Below V.heap.size V Y := (⟨hbY.os, hbY.tape, hbY.output, hbY.size, hbY.block⟩); have zY := hbV.size; have y10 := kept hbV v10; have y3 := kept hbV v3; have y4 := kept hbV v4; have yn := kept hbV vn; have ly := World.block_lt_of_cell? _ _ y10; have lny := World.block_lt_of_cell? _ _ yn)
        | fail)
      all_goals
        have HBY := Lib.hid (show Below w.heap.size w Y from HBV.out.trans (hbV.mono HBV.out.size))
        clear hbV
        go_wp2_with fail
        go_roundw
        case rel => exact ⟨k + 1, y + 1, by omega, rfl, Lib.hid (by have := HY.out; omega), ⟨by omega, by omega⟩, HBY⟩
        case measure => simp [intOf]; omega
    · have hyx : ¬ y < xhi := by have := HY.out; omega
      go_wp2_with fail
      go_ret
      exact ⟨rfl, HBr.out⟩
end Go.Proofs.YtjlmaingeobgeaaDoor
