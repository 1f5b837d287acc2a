/- Proved here: in a forest of nodes whose parts have greater numbers than the whole, exprHasObjectRest has an answer at each node; how the forest stands after one more part is hung up. Conditions as stated. -/
import Derived.Test.YtjcblmbndkacgaaEHA
import Derived.WalkKit
import Derived.WalkSpells
import Derived.WalkLawsBesides
import Derived.Lib.Hide
import Derived.OwnWalk
import Derived.Laws.OwnMore
namespace Go.Proofs.Ytjcblmbndkacgaa
open Go.RowKit
set_option linter.unusedSimpArgs false
set_option linter.unusedVariables false

/-- The datum of a node of kind k at block b. -/
def dat (k : Int) (b : Nat) : Value := .iface (if k = 1 then 53 else if k = 2 then 56 else if k = 3 then 66 else if k = 4 then 66 else 47) (.pointer (some ⟨b, 0, none⟩))
theorem dat_is (k : Int) (b : Nat) : IsE (dat k b) := .inr ⟨_, _, rfl⟩
def Kid (n : Nat) (k : Nat → Int) (blk : Nat → Nat) (p : Nat) (d : Value) : Prop := ∃ j, p < j ∧ j < n ∧ d = dat (k j) (blk j)
def ItemsA (n : Nat) (k : Nat → Int) (blk : Nat → Nat) (p m : Nat) (xs : List Value) : Prop := ∀ q, q < m → ∃ d, Kid n k blk p d ∧ xs[q * 2]? = some d ∧ xs[q * 2 + 1]? = some (.int .i32 0)
def ItemsO (n : Nat) (k : Nat → Int) (blk : Nat → Nat) (p m : Nat) (xs : List Value) : Prop := ∀ q, q < m → ∃ d s, Kid n k blk p d ∧ xs[q * 12]? = some (.pointer none) ∧ xs[q * 12 + 1]? = some (.nilIface) ∧ xs[q * 12 + 2]? = some (.int .i32 0) ∧ xs[q * 12 + 3]? = some (d) ∧ xs[q * 12 + 4]? = some (.int .i32 0) ∧ xs[q * 12 + 5]? = some (.nilIface) ∧ xs[q * 12 + 6]? = some (.int .i32 0) ∧ xs[q * 12 + 7]? = some (.slice none 0 0) ∧ xs[q * 12 + 8]? = some (.int .i32 0) ∧ xs[q * 12 + 9]? = some (.int .i32 0) ∧ xs[q * 12 + 10]? = some (.int .u8 s) ∧ xs[q * 12 + 11]? = some (.int .u8 0)
def NodeA (BB n i : Nat) (k : Nat → Int) (blk : Nat → Nat) (w : World) (p : Nat) (r : Option Nat) : Prop :=
  ∃ a m c xs, w.cell? ⟨blk p, 0, none⟩ = some (.slice a m c) ∧ w.frozen? ⟨blk p, 0, none⟩ = false ∧ w.ownsRow BB 32 2 (.slice a m c) m xs ∧ (Value.slice a m c).ownBlock = r ∧ m ≤ i ∧ ItemsA n k blk p m xs
def NodeO (BB n i : Nat) (k : Nat → Int) (blk : Nat → Nat) (w : World) (p : Nat) (r : Option Nat) : Prop :=
  ∃ a m c xs, w.cell? ⟨blk p, 0, none⟩ = some (.slice a m c) ∧ w.frozen? ⟨blk p, 0, none⟩ = false ∧ w.ownsRow BB 62 12 (.slice a m c) m xs ∧ (Value.slice a m c).ownBlock = r ∧ m ≤ i ∧ ItemsO n k blk p m xs
def NodeB (n : Nat) (k : Nat → Int) (blk : Nat → Nat) (w : World) (p : Nat) : Prop :=
  ∃ d d', (d = .nilIface ∨ Kid n k blk p d) ∧ IsE d' ∧ w.cell? ⟨blk p, 0, none⟩ = some d ∧ w.cell? ⟨blk p, 1, none⟩ = some (.int .i32 0) ∧ w.cell? ⟨blk p, 2, none⟩ = some d' ∧ w.cell? ⟨blk p, 3, none⟩ = some (.int .i32 0) ∧ w.cell? ⟨blk p, 4, none⟩ = some (.int .u8 (if k p = 3 then 37 else 11)) ∧ ∀ o, w.frozen? ⟨blk p, o, none⟩ = false
def Node (BB n i : Nat) (k : Nat → Int) (blk : Nat → Nat) (w : World) (p : Nat) (r : Option Nat) : Prop :=
  k p = 0 ∨ (k p = 1 ∧ NodeA BB n i k blk w p r) ∨ (k p = 2 ∧ NodeO BB n i k blk w p r) ∨ ((k p = 3 ∨ k p = 4) ∧ NodeB n k blk w p)
theorem own_keep {w w' : World} {B : Nat} {e : TypeId} {sz : Nat} {v : Value} {n : Nat} {xs : List Value} (h : w.ownsRow B e sz v n xs) (hk : ∀ r, v.ownBlock = some r → w'.heap[r]? = w.heap[r]?) : w'.ownsRow B e sz v n xs := by
  obtain ⟨e, h | ⟨g, cap, cur, hv, h1, hg, h2⟩⟩ := h
  · exact ⟨e, .inl h⟩
  · exact ⟨e, .inr ⟨g, cap, cur, hv, h1, (hk g (by rw [hv]; rfl)).trans hg, h2⟩⟩
theorem Node.keep {BB n i : Nat} {k : Nat → Int} {blk : Nat → Nat} {w w' : World} {p : Nat} {r : Option Nat} (h : Node BB n i k blk w p r) (hb : w'.heap[blk p]? = w.heap[blk p]?) (hr : ∀ r', r = some r' → w'.heap[r']? = w.heap[r']?) : Node BB n i k blk w' p r := by
  have hc : ∀ o, w'.cell? ⟨blk p, o, none⟩ = w.cell? ⟨blk p, o, none⟩ := fun o => World.cell?_of_block (a := ⟨blk p, o, none⟩) hb
  have hf : ∀ o, w'.frozen? ⟨blk p, o, none⟩ = w.frozen? ⟨blk p, o, none⟩ := fun o => World.frozen?_of_block (a := ⟨blk p, o, none⟩) hb
  rcases h with h | ⟨h, a, m, c, xs, h1, h2, h3, h4, h5⟩ | ⟨h, a, m, c, xs, h1, h2, h3, h4, h5⟩ | ⟨h, d, d', h1, h2, h3, h4, h5, h6, h7, h8⟩
  · exact .inl h
  · exact .inr (.inl ⟨h, a, m, c, xs, (hc _).trans h1, (hf _).trans h2, own_keep h3 (fun q hq => hr q (h4 ▸ hq)), h4, h5⟩)
  · exact .inr (.inr (.inl ⟨h, a, m, c, xs, (hc _).trans h1, (hf _).trans h2, own_keep h3 (fun q hq => hr q (h4 ▸ hq)), h4, h5⟩))
  · exact .inr (.inr (.inr ⟨h, d, d', h1, h2, (hc _).trans h3, (hc _).trans h4, (hc _).trans h5, (hc _).trans h6, (hc _).trans h7, fun o => (hf o).trans (h8 o)⟩))
theorem Node.up {BB n i i' : Nat} {k : Nat → Int} {blk : Nat → Nat} {w : World} {p : Nat} {r : Option Nat} (h : Node BB n i k blk w p r) (hi : i ≤ i') : Node BB n i' k blk w p r := by
  rcases h with h | ⟨h, a, m, c, xs, h1, h2, h3, h4, h5, h6⟩ | ⟨h, a, m, c, xs, h1, h2, h3, h4, h5, h6⟩ | h
  · exact .inl h
  · exact .inr (.inl ⟨h, a, m, c, xs, h1, h2, h3, h4, Nat.le_trans h5 hi, h6⟩)
  · exact .inr (.inr (.inl ⟨h, a, m, c, xs, h1, h2, h3, h4, Nat.le_trans h5 hi, h6⟩))
  · exact .inr (.inr (.inr h))
structure Forest (BB n i : Nat) (k : Nat → Int) (blk : Nat → Nat) (Rw : Nat → Option Nat) (w : World) : Prop where
  hb : ∀ p, p < n → BB ≤ blk p ∧ blk p < w.heap.size
  inj : ∀ p q, p < n → q < n → blk p = blk q → p = q
  hr : ∀ p r, Rw p = some r → BB ≤ r ∧ r < w.heap.size ∧ ∀ q, q < n → r ≠ blk q
  rinj : ∀ p q r, Rw p = some r → Rw q = some r → p = q
  node : ∀ p, p < n → Node BB n i k blk w p (Rw p)
theorem Forest.up {BB n i i' : Nat} {k : Nat → Int} {blk : Nat → Nat} {Rw : Nat → Option Nat} {w : World} (h : Forest BB n i k blk Rw w) (hi : i ≤ i') : Forest BB n i' k blk Rw w := ⟨h.hb, h.inj, h.hr, h.rinj, fun p hp => (h.node p hp).up hi⟩
theorem Forest.step {BB n i : Nat} {k : Nat → Int} {blk : Nat → Nat} {Rw : Nat → Option Nat} {w w' : World} (h : Forest BB n i k blk Rw w) (p : Nat) (hp : p < n) (r' : Option Nat) (hsz : w.heap.size ≤ w'.heap.size) (hBB : BB ≤ w.heap.size)
    (hk : ∀ b, b < w.heap.size → b ≠ blk p → Rw p ≠ some b → w'.heap[b]? = w.heap[b]?) (hn : Node BB n (i + 1) k blk w' p r') (hr' : r' = Rw p ∨ ∃ g, r' = some g ∧ w.heap.size ≤ g ∧ g < w'.heap.size) :
    Forest BB n (i + 1) k blk (fun q => if q = p then r' else Rw q) w' := by
  refine ⟨fun q hq => ⟨(h.hb q hq).1, Nat.lt_of_lt_of_le (h.hb q hq).2 hsz⟩, h.inj, ?_, ?_, ?_⟩
  · intro q r hq
    by_cases e : q = p
    · subst e
      simp only [if_true] at hq
      rcases hr' with h' | ⟨g, h', h1, h2⟩
      · obtain ⟨a1, a2, a3⟩ := h.hr q r (h' ▸ hq)
        exact ⟨a1, by omega, a3⟩
      · rw [h'] at hq
        simp only [Option.some.injEq] at hq
        subst hq
        exact ⟨by omega, h2, fun q hq e => by have := (h.hb q hq).2; omega⟩
    · simp only [if_neg e] at hq
      obtain ⟨a1, a2, a3⟩ := h.hr q r hq
      exact ⟨a1, by omega, a3⟩
  · intro q q' r hq hq'
    have key : ∀ q, q ≠ p → Rw q = some r → r' = some r → False := by
      intro q hne hq hr
      rcases hr' with h' | ⟨g, h', h1, h2⟩
      · exact hne (h.rinj q p r hq (h' ▸ hr))
      · rw [h'] at hr
        simp only [Option.some.injEq] at hr
        have := (h.hr q r hq).2.1
        omega
    by_cases e : q = p
    · by_cases e' : q' = p
      · rw [e, e']
      · simp only [if_pos e] at hq
        simp only [if_neg e'] at hq'
        exact (key q' e' hq' hq).elim
    · by_cases e' : q' = p
      · simp only [if_neg e] at hq
        simp only [if_pos e'] at hq'
        exact (key q e hq hq').elim
      · simp only [if_neg e] at hq
        simp only [if_neg e'] at hq'
        exact h.rinj q q' r hq hq'
  · intro q hq
    by_cases e : q = p
    · subst e
      simpa using hn
    · simp only [if_neg e]
      refine ((h.node q hq).up (Nat.le_succ i)).keep (hk _ (h.hb q hq).2 (fun e' => e (h.inj q p hq hp e')) (fun e' => (h.hr p _ e').2.2 q hq rfl)) (fun r hr => hk r (h.hr q r hr).2.1 (fun e' => (h.hr q r hr).2.2 p hp e') (fun e' => e (h.rinj q p r hr e')))
theorem Forest.answer {BB n i : Nat} {k : Nat → Int} {blk : Nat → Nat} {Rw : Nat → Option Nat} {w : World} (h : Forest BB n i k blk Rw w) (hi : i ≤ 1048576) : ∀ m p, n - p ≤ m → p < n → ∃ t, EH BB w (dat (k p) (blk p)) t := by
  intro m
  induction m with
  | zero => intro p hm hp; omega
  | succ m ih =>
    intro p hm hp
    have hkid : ∀ d, Kid n k blk p d → IsE d ∧ ∃ t, EH BB w d t := by
      rintro d ⟨j, h1, h2, rfl⟩
      exact ⟨dat_is _ _, ih j (by omega) h2⟩
    have hb := (h.hb p hp).1
    rcases h.node p hp with h0 | ⟨h0, a, m', c, xs, h1, h2, h3, h4, h5, h6⟩ | ⟨h0, a, m', c, xs, h1, h2, h3, h4, h5, h6⟩ | ⟨h0, d, d', h1, h2, h3, h4, h5, h6, h7, h8⟩
    · refine ⟨false, ?_⟩
      rw [h0]
      exact ehId BB _ w
    · rw [h0]
      rcases id h3 with ⟨e3, ⟨e, _⟩ | ⟨g, cap, cur, e, rest⟩⟩
      · simp only [Value.slice.injEq] at e
        obtain ⟨rfl, rfl, rfl⟩ := e
        exact ⟨false, ehArrNil BB _ w hb h1⟩
      · simp only [Value.slice.injEq] at e
        obtain ⟨rfl, _, rfl⟩ := e
        have hch : ∀ q, ∃ t : Bool, q < m' → ∃ d, IsE d ∧ EH BB w d t ∧ xs[q * 2]? = some d ∧ xs[q * 2 + 1]? = some (.int .i32 0) := by
          intro q
          by_cases hq : q < m'
          · obtain ⟨d, hd, hx⟩ := h6 q hq
            obtain ⟨hd1, t, ht⟩ := hkid d hd
            exact ⟨t, fun _ => ⟨d, hd1, ht, hx⟩⟩
          · exact ⟨false, fun hh => absurd hh hq⟩
        obtain ⟨T, hT⟩ := Classical.axiomOfChoice hch
        exact ⟨_, ehArr BB _ g m' _ xs T BB w hb h1 (World.ownsRow.lt h3 g rfl).1 h3 ⟨e3, hT⟩ (by omega)⟩
    · rw [h0]
      rcases id h3 with ⟨e3, ⟨e, _⟩ | ⟨g, cap, cur, e, rest⟩⟩
      · simp only [Value.slice.injEq] at e
        obtain ⟨rfl, rfl, rfl⟩ := e
        exact ⟨false, ehObjNil BB _ w hb h1⟩
      · simp only [Value.slice.injEq] at e
        obtain ⟨rfl, _, rfl⟩ := e
        have hch : ∀ q, ∃ ts : Bool × Int, q < m' → ∃ d, IsE d ∧ EH BB w d ts.1 ∧ xs[q * 12]? = some (.pointer none) ∧ xs[q * 12 + 1]? = some (.nilIface) ∧ xs[q * 12 + 2]? = some (.int .i32 0) ∧ xs[q * 12 + 3]? = some (d) ∧ xs[q * 12 + 4]? = some (.int .i32 0) ∧ xs[q * 12 + 5]? = some (.nilIface) ∧ xs[q * 12 + 6]? = some (.int .i32 0) ∧ xs[q * 12 + 7]? = some (.slice none 0 0) ∧ xs[q * 12 + 8]? = some (.int .i32 0) ∧ xs[q * 12 + 9]? = some (.int .i32 0) ∧ xs[q * 12 + 10]? = some (.int .u8 ts.2) ∧ xs[q * 12 + 11]? = some (.int .u8 0) := by
          intro q
          by_cases hq : q < m'
          · obtain ⟨d, s, hd, hx⟩ := h6 q hq
            obtain ⟨hd1, t, ht⟩ := hkid d hd
            exact ⟨(t, s), fun _ => ⟨d, hd1, ht, hx⟩⟩
          · exact ⟨(false, 0), fun hh => absurd hh hq⟩
        obtain ⟨T, hT⟩ := Classical.axiomOfChoice hch
        exact ⟨_, ehObj BB _ g m' _ xs (fun q => (T q).2) (fun q => (T q).1) BB w hb h1 (World.ownsRow.lt h3 g rfl).1 h3 ⟨e3, hT⟩ (by omega)⟩
    · rcases h0 with h0 | h0
      · rw [h0] at h7 ⊢
        rcases h1 with rfl | hd
        · exact ⟨false, ehAsg BB _ _ false w hb (.inl rfl) (ehNil BB w) h3 h4 h7⟩
        · obtain ⟨hd1, t, ht⟩ := hkid d hd
          exact ⟨t, ehAsg BB _ _ t w hb hd1 ht h3 h4 h7⟩
      · rw [h0] at h7 ⊢
        exact ⟨false, ehAdd BB _ w hb h7⟩
theorem ItemsA.snoc {n : Nat} {k : Nat → Int} {blk : Nat → Nat} {p m : Nat} {xs : List Value} (h : ItemsA n k blk p m xs) (hl : xs.length = m * 2) (d : Value) (hd : Kid n k blk p d) : ItemsA n k blk p (m + 1) (xs ++ [d, .int .i32 0]) := by
  intro q hq
  by_cases e : q = m
  · subst e
    refine ⟨d, hd, ?_, ?_⟩ <;> (rw [List.getElem?_append_right (by omega), hl]; simp)
  · obtain ⟨d', h1, x0, x1⟩ := h q (by omega)
    refine ⟨d', h1, ?_, ?_⟩ <;> (rw [List.getElem?_append_left (by omega)]; assumption)
theorem ItemsO.snoc {n : Nat} {k : Nat → Int} {blk : Nat → Nat} {p m : Nat} {xs : List Value} (h : ItemsO n k blk p m xs) (hl : xs.length = m * 12) (d : Value) (s : Int) (hd : Kid n k blk p d) : ItemsO n k blk p (m + 1) (xs ++ [.pointer none, .nilIface, .int .i32 0, d, .int .i32 0, .nilIface, .int .i32 0, .slice none 0 0, .int .i32 0, .int .i32 0, .int .u8 s, .int .u8 0]) := by
  intro q hq
  by_cases e : q = m
  · subst e
    refine ⟨d, s, hd, ?_, ?_, ?_, ?_, ?_, ?_, ?_, ?_, ?_, ?_, ?_, ?_⟩ <;> (rw [List.getElem?_append_right (by omega), hl]; simp)
  · obtain ⟨d', s', h1, x0, x1, x2, x3, x4, x5, x6, x7, x8, x9, x10, x11⟩ := h q (by omega)
    refine ⟨d', s', h1, ?_, ?_, ?_, ?_, ?_, ?_, ?_, ?_, ?_, ?_, ?_, ?_⟩ <;> (rw [List.getElem?_append_left (by omega)]; assumption)
end Go.Proofs.Ytjcblmbndkacgaa
