/- Proved here: what the parser's state is (records, symbols, the generated refs, two maps) and how it is kept; plain laws about the range over a map. Conditions as stated. -/
import Derived.Test.YtoblkmnhoiodcaaDoorGIA
import Derived.Test.YtoblkmnhoiodcaaDoorGIC
import Derived.Test.YtoblkmnhoiodcaaDoorGID
import Derived.Maps.RangeRun
namespace Go.Proofs.YtoblkmnhoiodcaaDoor
namespace GI
open Go.RowKit IM
set_option linter.unusedSimpArgs false
set_option linter.unusedVariables false

theorem ownKeep {w w' : World} {B : Nat} {e : TypeId} {sz : Nat} {v : Value} {n : Nat} {xs : List Value} (h : w.ownsRow B e sz v n xs) (hk : ∀ k cs, v.ownBlock = some k → At w k e cs → w'.heap[k]? = w.heap[k]?) : w'.ownsRow B e sz v n xs := by
  obtain ⟨h0, h | ⟨g, cap, cur, rfl, h2, h3, h4⟩⟩ := h
  · exact ⟨h0, .inl h⟩
  · exact ⟨h0, .inr ⟨g, cap, cur, rfl, h2, (hk g cur rfl h3).trans h3, h4⟩⟩

/-- Every block but those of M, and rows of the types T, is as it was. -/
def KQ (T : List TypeId) (M : List Nat) (w w' : World) : Prop := w.heap.size ≤ w'.heap.size ∧ ∀ k, k < w.heap.size → k ∉ M → (∀ cs t fr, t ∈ T → w.heap[k]? ≠ some (.cells cs t fr)) → w'.heap[k]? = w.heap[k]?
theorem KQ.refl (T : List TypeId) (M : List Nat) (w : World) : KQ T M w w := ⟨Nat.le_refl _, fun _ _ _ _ => rfl⟩
theorem KQ.trans {T : List TypeId} {M : List Nat} {w w1 w2 : World} (h : KQ T M w w1) (h2 : KQ T M w1 w2) : KQ T M w w2 :=
  ⟨Nat.le_trans h.1 h2.1, fun k hk hm ht => by
    have e := h.2 k hk hm ht
    rw [← e]
    exact h2.2 k (Nat.lt_of_lt_of_le hk h.1) hm (fun cs t fr hT => by rw [e]; exact ht cs t fr hT)⟩
theorem KQ.trans' {T : List TypeId} {M : List Nat} {w w1 w2 : World} (h : KQ T M w w1) (hs : w1.heap.size ≤ w2.heap.size) (h2 : ∀ k, k < w.heap.size → k ∉ M → w2.heap[k]? = w1.heap[k]?) : KQ T M w w2 :=
  ⟨Nat.le_trans h.1 hs, fun k hk hm ht => (h2 k hk hm).trans (h.2 k hk hm ht)⟩
theorem KQ.mono {T T' : List TypeId} {M M' : List Nat} {w w1 : World} (h : KQ T M w w1) (hT : ∀ t, t ∈ T → t ∈ T') (hM : ∀ k, k ∈ M → k ∈ M') : KQ T' M' w w1 :=
  ⟨h.1, fun k hk hm ht => h.2 k hk (fun e => hm (hM k e)) (fun cs t fr e => ht cs t fr (hT t e))⟩
theorem KQ.step {T : List TypeId} {M : List Nat} {w w1 w2 : World} (h : KQ T M w w1) (hs : w1.heap.size ≤ w2.heap.size) (hk : ∀ k, k < w.heap.size → k ∉ M → (∀ cs t fr, t ∈ T → w1.heap[k]? ≠ some (.cells cs t fr)) → w2.heap[k]? = w1.heap[k]?) : KQ T M w w2 :=
  ⟨Nat.le_trans h.1 hs, fun k hk1 hm ht => by
    have e := h.2 k hk1 hm ht
    rw [← e]
    exact hk k hk1 hm (fun cs t fr hT => by rw [e]; exact ht cs t fr hT)⟩
theorem KQ.alloc {T : List TypeId} {M : List Nat} {w w1 : World} (h : KQ T M w w1) (o : Obj) : KQ T M w (w1.alloc o) :=
  h.step (by simp) (fun k hk _ _ => Below.heap_alloc w1 o k (Nat.lt_of_lt_of_le hk h.1))
theorem KQ.drew {T : List TypeId} {M : List Nat} {w w1 : World} (h : KQ T M w w1) : KQ T M w w1.drew := h
theorem KQ.drewN {T : List TypeId} {M : List Nat} {w w1 : World} (h : KQ T M w w1) (n : Nat) : KQ T M w (w1.drewN n) := h
theorem KQ.set {T : List TypeId} {M : List Nat} {w w1 : World} (h : KQ T M w w1) (b i : Nat) (v : Value) (hb : w.heap.size ≤ b ∨ b ∈ M ∨ ∃ t cs, t ∈ T ∧ At w1 b t cs) : KQ T M w (w1.setCell ⟨b, i, none⟩ v) :=
  h.step (by simp [World.setCell]) (fun k hk hm ht => Below.heap_setCell w1 ⟨b, i, none⟩ v k (fun e => by
    simp only at e
    subst e
    rcases hb with hb | hb | ⟨t, cs, hT, hat⟩
    · omega
    · exact hm hb
    · exact ht cs t (0, 0) hT hat))
theorem KQ.mput {T : List TypeId} {M : List Nat} {w w1 : World} (h : KQ T M w w1) (m : Nat) (o : Obj) (hb : w.heap.size ≤ m ∨ m ∈ M) : KQ T M w (mput w1 m o) :=
  h.step (by rw [mput_size]; exact Nat.le_refl _) (fun k hk hm _ => mput_other w1 m o k (fun e => by
    subst e
    rcases hb with hb | hb
    · omega
    · exact hm hb))
theorem KQ.below {T : List TypeId} {M : List Nat} {w w1 : World} (h : Below w.heap.size w w1) : KQ T M w w1 := ⟨h.size, fun k hk _ _ => h.block k hk⟩
theorem KQ.grown {T : List TypeId} {M : List Nat} {w w1 w2 : World} {r : Option Nat} (h : KQ T M w w1) (hg : w1.grownBy w2 r) (hr : ∀ k, r = some k → w.heap.size ≤ k ∨ ∃ t cs, t ∈ T ∧ At w1 k t cs) : KQ T M w w2 :=
  h.step hg.size (fun k hk hm ht => hg.block k (Nat.lt_of_lt_of_le hk h.1) (fun e => by
    rcases hr k e.symm with hb | ⟨t, cs, hT, hat⟩
    · omega
    · exact ht cs t (0, 0) hT hat))
theorem KQ.at {T : List TypeId} {M : List Nat} {w w1 : World} (h : KQ T M w w1) {k : Nat} {t : TypeId} {cs : Array Value} (hat : At w k t cs) (hM : k ∉ M) (hT : t ∉ T) : At w1 k t cs :=
  (h.2 k hat.lt hM (fun cs' t' fr hT' e => by
    unfold At at hat
    rw [hat] at e
    simp only [Option.some.injEq, Obj.cells.injEq] at e
    exact hT (e.2.1 ▸ hT'))).trans hat
theorem KQ.map {T : List TypeId} {M : List Nat} {w w1 : World} (h : KQ T M w w1) {K : Type} {mk : K → Value} {r : Nat} {L : List (K × Value)} (hp : MP mk w r L) (hM : r ∉ M) : MP mk w1 r L :=
  hp.of_block (h.2 r hp.lt hM (fun cs t fr _ e => by
    obtain ⟨es, c, h1, _⟩ := hp
    rw [h1] at e
    cases e))
theorem atNe {w : World} {a b : Nat} {t t' : TypeId} {cs cs' : Array Value} (h : At w a t cs) (h' : At w b t' cs') (ht : t ≠ t') : a ≠ b := by
  rintro rfl
  unfold At at h h'
  rw [h] at h'
  simp only [Option.some.injEq, Obj.cells.injEq] at h'
  exact ht h'.2.1
theorem mapNe {w : World} {a b : Nat} {t : TypeId} {cs : Array Value} (h : At w a t cs) {K : Type} {mk : K → Value} {L : List (K × Value)} (hp : MP mk w b L) : a ≠ b := by
  rintro rfl
  obtain ⟨es, c, h1, _⟩ := hp
  unfold At at h
  rw [h] at h1
  cases h1
theorem mapNeC {w : World} {a b o : Nat} {v : Value} (h : w.cell? ⟨a, o, none⟩ = some v) {K : Type} {mk : K → Value} {L : List (K × Value)} (hp : MP mk w b L) : a ≠ b := by
  rintro rfl
  obtain ⟨es, c, h1, _⟩ := hp
  simp [World.cell?, h1] at h

/-- Block sb is a scope; its generated refs are the row gs. -/
def SG (w : World) (B pb sb ng : Nat) (gs : List Value) : Prop :=
  ∃ a c cs, At w sb 202 cs ∧ cs[5]? = some (.slice a ng c) ∧ w.ownsRow B 34 2 (.slice a ng c) ng gs ∧ (∀ k, (Value.slice a ng c).ownBlock = some k → k ≠ pb)
/-- The parser at pb: n records xs, ns symbols ys, ng generated refs gs, the maps at mi and mn. -/
structure GS (w : World) (B pb sb mi mn n : Nat) (xs : List Value) (ns : Nat) (ys : List Value) (ng : Nat) (gs : List Value) (Li Ln : List ((Int × Int) × Value)) : Prop where
  recs : AI.PR w B pb n xs
  sym : NS.PS w B pb 0 false ns ys
  c187 : w.cell? ⟨pb, 187, none⟩ = some (.pointer (some ⟨sb, 0, none⟩))
  c172 : w.cell? ⟨pb, 172, none⟩ = some (.map (some mi))
  c173 : w.cell? ⟨pb, 173, none⟩ = some (.map (some mn))
  gen : SG w B pb sb ng gs
  mpi : MP mkR w mi Li
  mpn : MP mkR w mn Ln
  bp : B ≤ pb
  bs : B ≤ sb
  bi : B ≤ mi
  bn : B ≤ mn
  pns : pb ≠ sb
  ine : mi ≠ mn
theorem GS.lt {w : World} {B pb sb mi mn n : Nat} {xs : List Value} {ns : Nat} {ys : List Value} {ng : Nat} {gs : List Value} {Li Ln : List ((Int × Int) × Value)} (h : GS w B pb sb mi mn n xs ns ys ng gs Li Ln) : pb < w.heap.size ∧ sb < w.heap.size ∧ mi < w.heap.size ∧ mn < w.heap.size := by
  obtain ⟨a, c, cs, h1, _⟩ := h.gen
  exact ⟨World.block_lt_of_cell? _ _ h.c187, h1.lt, h.mpi.lt, h.mpn.lt⟩
theorem cellOf {w w' : World} {b o : Nat} (h : w'.heap[b]? = w.heap[b]?) : w'.cell? ⟨b, o, none⟩ = w.cell? ⟨b, o, none⟩ := World.cell?_of_block (a := ⟨b, o, none⟩) h
theorem frozOf {w w' : World} {b o : Nat} (h : w'.heap[b]? = w.heap[b]?) : w'.frozen? ⟨b, o, none⟩ = w.frozen? ⟨b, o, none⟩ := World.frozen?_of_block (a := ⟨b, o, none⟩) h
/-- Blocks that a state does not stand on may change. -/
theorem GS.keep {w w' : World} {B pb sb mi mn n : Nat} {xs : List Value} {ns : Nat} {ys : List Value} {ng : Nat} {gs : List Value} {Li Ln Li' Ln' : List ((Int × Int) × Value)} (h : GS w B pb sb mi mn n xs ns ys ng gs Li Ln)
    (hp : w'.heap[pb]? = w.heap[pb]?) (hs : w'.heap[sb]? = w.heap[sb]?) (hi : MP mkR w' mi Li') (hn : MP mkR w' mn Ln')
    (hr : ∀ k t cs, (t = 77 ∨ t = 222 ∨ t = 34) → B ≤ k → k ≠ pb → At w k t cs → w'.heap[k]? = w.heap[k]?) : GS w' B pb sb mi mn n xs ns ys ng gs Li' Ln' := by
  obtain ⟨⟨a1, c1, p1, p2, p3, p4⟩, ⟨a2, c2, q1, q2, q3, q4, q5, q6⟩, e1, e2, e3, ⟨a3, c3, cs, r1, r2, r3, r4⟩, _, _, b1, b2, b3, b4, ne1, ne2⟩ := h
  exact ⟨⟨a1, c1, (cellOf hp).trans p1, (frozOf hp).trans p2, ownKeep p3 (fun k cs ho ha => hr k 77 cs (.inl rfl) (World.ownsRow.lt p3 k ho).1 (p4 k ho) ha), p4⟩,
    ⟨a2, c2, (cellOf hp).trans q1, (cellOf hp).trans q2, (frozOf hp).trans q3, (cellOf hp).trans q4, ownKeep q5 (fun k cs ho ha => hr k 222 cs (.inr (.inl rfl)) (World.ownsRow.lt q5 k ho).1 (q6 k ho) ha), q6⟩,
    (cellOf hp).trans e1, (cellOf hp).trans e2, (cellOf hp).trans e3, ⟨a3, c3, cs, hs.trans r1, r2, ownKeep r3 (fun k cs ho ha => hr k 34 cs (.inr (.inr rfl)) (World.ownsRow.lt r3 k ho).1 (r4 k ho) ha), r4⟩, hi, hn, b1, b2, b3, b4, ne1, ne2⟩
theorem GS.below {w w' : World} {B pb sb mi mn n : Nat} {xs : List Value} {ns : Nat} {ys : List Value} {ng : Nat} {gs : List Value} {Li Ln : List ((Int × Int) × Value)} (h : GS w B pb sb mi mn n xs ns ys ng gs Li Ln) (hb : Below w.heap.size w w') : GS w' B pb sb mi mn n xs ns ys ng gs Li Ln := by
  obtain ⟨l1, l2, l3, l4⟩ := h.lt
  exact h.keep (hb.block _ l1) (hb.block _ l2) (h.mpi.of_block (hb.block _ l3)) (h.mpn.of_block (hb.block _ l4)) (fun k t cs _ _ _ ha => hb.block _ ha.lt)
/-- A new symbol. -/
theorem GS.newSym {w w' : World} {B pb sb mi mn n : Nat} {xs : List Value} {ns ns' : Nat} {ys ys' : List Value} {ng : Nat} {gs : List Value} {Li Ln : List ((Int × Int) × Value)} (h : GS w B pb sb mi mn n xs ns ys ng gs Li Ln)
    (hp : NS.PS w' B pb 0 false ns' ys') (hk : NS.Kp pb w w') (hs : NS.Sb pb w w') : GS w' B pb sb mi mn n xs ns' ys' ng gs Li Ln := by
  have ni := mapNeC h.c187 h.mpi
  have nn := mapNeC h.c187 h.mpn
  have bi : w'.heap[mi]? = w.heap[mi]? := hk mi h.mpi.lt (Ne.symm ni) (fun cs fr e => by obtain ⟨es, c, h1, _⟩ := h.mpi; rw [h1] at e; cases e)
  have bn : w'.heap[mn]? = w.heap[mn]? := hk mn h.mpn.lt (Ne.symm nn) (fun cs fr e => by obtain ⟨es, c, h1, _⟩ := h.mpn; rw [h1] at e; cases e)
  have hi := h.mpi.of_block bi
  have hn := h.mpn.of_block bn
  obtain ⟨⟨a1, c1, p1, p2, p3, p4⟩, ⟨a2, c2, q1, q2, q3, q4, q5, q6⟩, e1, e2, e3, ⟨a3, c3, cs, r1, r2, r3, r4⟩, _, _, b1, b2, b3, b4, ne1, ne2⟩ := h
  exact ⟨⟨a1, c1, ((hs 169 (by decide)).1).trans p1, (hs 169 (by decide)).2 p2, ownKeep p3 (fun k cs ho ha => hk.block ha (p4 k ho) (by decide)), p4⟩, hp,
    ((hs 187 (by decide)).1).trans e1, ((hs 172 (by decide)).1).trans e2, ((hs 173 (by decide)).1).trans e3,
    ⟨a3, c3, cs, (hk.block r1 (Ne.symm ne1) (by decide)).trans r1, r2, ownKeep r3 (fun k cs ho ha => hk.block ha (r4 k ho) (by decide)), r4⟩, hi, hn, b1, b2, b3, b4, ne1, ne2⟩
/-- A new record. -/
theorem GS.newRec {w w' : World} {B pb sb mi mn n n' : Nat} {xs xs' : List Value} {ns : Nat} {ys : List Value} {ng : Nat} {gs : List Value} {Li Ln : List ((Int × Int) × Value)} (h : GS w B pb sb mi mn n xs ns ys ng gs Li Ln)
    (hp : AI.PR w' B pb n' xs') (hk : AI.Kp pb w w') (hs : AI.Sb pb w w') : GS w' B pb sb mi mn n' xs' ns ys ng gs Li Ln := by
  have ni := mapNeC h.c187 h.mpi
  have nn := mapNeC h.c187 h.mpn
  have bi : w'.heap[mi]? = w.heap[mi]? := hk mi h.mpi.lt (Ne.symm ni) (fun cs fr e => by obtain ⟨es, c, h1, _⟩ := h.mpi; rw [h1] at e; cases e)
  have bn : w'.heap[mn]? = w.heap[mn]? := hk mn h.mpn.lt (Ne.symm nn) (fun cs fr e => by obtain ⟨es, c, h1, _⟩ := h.mpn; rw [h1] at e; cases e)
  have hi := h.mpi.of_block bi
  have hn := h.mpn.of_block bn
  obtain ⟨⟨a1, c1, p1, p2, p3, p4⟩, ⟨a2, c2, q1, q2, q3, q4, q5, q6⟩, e1, e2, e3, ⟨a3, c3, cs, r1, r2, r3, r4⟩, _, _, b1, b2, b3, b4, ne1, ne2⟩ := h
  exact ⟨hp, ⟨a2, c2, ((hs 66 (by decide)).1).trans q1, ((hs 106 (by decide)).1).trans q2, (hs 106 (by decide)).2 q3, ((hs 32 (by decide)).1).trans q4, ownKeep q5 (fun k cs ho ha => hk.block ha (q6 k ho) (by decide)), q6⟩,
    ((hs 187 (by decide)).1).trans e1, ((hs 172 (by decide)).1).trans e2, ((hs 173 (by decide)).1).trans e3,
    ⟨a3, c3, cs, (hk.block r1 (Ne.symm ne1) (by decide)).trans r1, r2, ownKeep r3 (fun k cs ho ha => hk.block ha (r4 k ho) (by decide)), r4⟩, hi, hn, b1, b2, b3, b4, ne1, ne2⟩

/-- An entry of the map of names: a location and a ref. -/
def locOf : Value → Int
  | .agg #[.int .i32 l, .int .u32 _, .int .u32 _] => l
  | _ => 0
def refOf : Value → Int × Int
  | .agg #[.int .i32 _, .int .u32 s, .int .u32 i] => (s, i)
  | _ => (0, 0)
def LV (v : Value) : Prop := ∃ l s i : Int, v = .agg #[.int .i32 l, .int .u32 s, .int .u32 i]
theorem LV.eq {v : Value} (h : LV v) : v = .agg #[.int .i32 (locOf v), .int .u32 (refOf v).1, .int .u32 (refOf v).2] := by
  obtain ⟨l, s, i, rfl⟩ := h
  rfl
def lk (L : List (ByteArray × Value)) (a : ByteArray) : Value := (IM.look L a).getD (.agg #[.int .i32 0, .int .u32 0, .int .u32 0])
theorem lk_LV {L : List (ByteArray × Value)} (h : ∀ p ∈ L, LV p.2) (a : ByteArray) : LV (lk L a) := by
  unfold lk
  induction L with
  | nil => exact ⟨0, 0, 0, rfl⟩
  | cons p L ih =>
    unfold IM.look
    split
    · exact h p (by simp)
    · exact ih (fun q hq => h q (by simp [hq]))
/-- Where the import statement is said to lie. -/
def LocP (L : List (ByteArray × Value)) (st rl st' : Int) : Prop :=
  (rl ≠ 0 → st' = st) ∧ (L = [] → st' = st) ∧ (rl = 0 → L ≠ [] → (∃ p ∈ L, locOf p.2 = st') ∧ ∀ p ∈ L, st' ≤ locOf p.2)
/-- The entries that have been seen: the least location of them. -/
def SeenP (es : Array MapEntry) (seen : Array Nat) (st st' : Int) (fst : Bool) : Prop :=
  (seen = #[] ∧ st' = st ∧ fst = true) ∨ (fst = false ∧ (∃ e ∈ es.toList, seen.contains e.born = true ∧ locOf e.val = st') ∧ ∀ e ∈ es.toList, seen.contains e.born = true → st' ≤ locOf e.val)
theorem SeenP.step {es : Array MapEntry} {seen : Array Nat} {st st' : Int} {fst : Bool} (hn : (es.toList.map (·.born)).Nodup) (h : SeenP es seen st st' fst) {e : MapEntry} (he : e ∈ es.toList) (l st2 : Int) (hl : locOf e.val = l) (hmin : (fst = true ∧ st2 = l) ∨ (fst = false ∧ l < st' ∧ st2 = l) ∨ (fst = false ∧ ¬ l < st' ∧ st2 = st')) : SeenP es (seen.push e.born) st st2 false := by
  have inj : ∀ x ∈ es.toList, x.born = e.born → x = e := fun x hx hb => by
    have h1 := List.pairwise_map.1 hn
    clear hmin h
    revert hx he h1
    induction es.toList with
    | nil => intro h; cases h
    | cons y l ih =>
      intro he hx h1
      rw [List.pairwise_cons] at h1
      rcases List.mem_cons.1 he with rfl | he'
      · rcases List.mem_cons.1 hx with rfl | hx'
        · rfl
        · exact absurd hb.symm (h1.1 x hx')
      · rcases List.mem_cons.1 hx with rfl | hx'
        · exact absurd hb (h1.1 e he')
        · exact ih he' hx' h1.2
  right
  refine ⟨rfl, ?_⟩
  rcases h with ⟨rfl, rfl, rfl⟩ | ⟨rfl, ⟨e0, h0, hs0, hl0⟩, hle⟩
  · rcases hmin with ⟨_, rfl⟩ | ⟨h, _⟩ | ⟨h, _⟩
    · refine ⟨⟨e, he, by simp [contains_push], hl⟩, fun x hx hs => ?_⟩
      rw [contains_push] at hs
      simp at hs
      rw [inj x hx hs, hl]
      omega
    · cases h
    · cases h
  · rcases hmin with ⟨h, _⟩ | ⟨_, hlt, rfl⟩ | ⟨_, hge, rfl⟩
    · cases h
    · refine ⟨⟨e, he, by simp [contains_push], hl⟩, fun x hx hs => ?_⟩
      rw [contains_push] at hs
      simp at hs
      rcases hs with hs | hs
      · have := hle x hx (by simpa using hs); omega
      · rw [inj x hx hs, hl]; omega
    · refine ⟨⟨e0, h0, by rw [contains_push, hs0]; rfl, hl0⟩, fun x hx hs => ?_⟩
      rw [contains_push] at hs
      simp at hs
      rcases hs with hs | hs
      · exact hle x hx (by simpa using hs)
      · rw [inj x hx hs, hl]; omega
theorem left_none {es : Array MapEntry} {seen : Array Nat} (h : (leftOf es seen).size = 0) : ∀ e ∈ es.toList, seen.contains e.born = true := by
  intro e he
  cases hc : seen.contains e.born with
  | true => rfl
  | false =>
    have : e ∈ leftOf es seen := by
      unfold leftOf
      rw [Array.mem_filter]
      exact ⟨by simpa using he, by rw [hc]; rfl⟩
    have h2 := Array.eq_empty_of_size_eq_zero h
    rw [h2] at this
    simp at this
theorem EL.vals {es : Array MapEntry} {L : List (ByteArray × Value)} (hE : IM.EL mkS es L) (v : Value) : (∃ e ∈ es.toList, e.val = v) ↔ ∃ p ∈ L, p.2 = v := by
  have e1 : es.toList.map (·.val) = L.map (·.2) := by
    have := congrArg (List.map Prod.snd) hE
    rw [List.map_map, List.map_map] at this
    exact this
  have e2 : v ∈ es.toList.map (·.val) ↔ v ∈ L.map (·.2) := by rw [e1]
  simpa [List.mem_map] using e2
theorem LocP.of_seen {es : Array MapEntry} {L : List (ByteArray × Value)} (hE : EL mkS es L) {seen : Array Nat} {st st' : Int} {fst : Bool} (h : SeenP es seen st st' fst) (h0 : (leftOf es seen).size = 0) : LocP L st 0 st' := by
  have hall := left_none h0
  have hmem : ∀ v, (∃ e ∈ es.toList, e.val = v) ↔ ∃ p ∈ L, p.2 = v := fun v => by
    have e1 : es.toList.map (·.val) = L.map (·.2) := by
      have := congrArg (List.map Prod.snd) hE
      rw [List.map_map, List.map_map] at this
      exact this
    have e2 : v ∈ es.toList.map (·.val) ↔ v ∈ L.map (·.2) := by rw [e1]
    simpa [List.mem_map] using e2
  refine ⟨fun h => absurd rfl h, fun hL => ?_, fun _ hL => ?_⟩
  · rcases h with ⟨_, h, _⟩ | ⟨_, ⟨e, he, _⟩, _⟩
    · exact h
    · obtain ⟨p, hp, _⟩ := (hmem e.val).1 ⟨e, he, rfl⟩
      rw [hL] at hp; cases hp
  · rcases h with ⟨hs, _, _⟩ | ⟨_, ⟨e, he, _, hl⟩, hle⟩
    · exfalso
      obtain ⟨p, hp⟩ := List.exists_mem_of_ne_nil L hL
      obtain ⟨e, he, _⟩ := (hmem p.2).2 ⟨p, hp, rfl⟩
      have := hall e he
      rw [hs] at this
      simp at this
    · refine ⟨?_, fun p hp => ?_⟩
      · obtain ⟨p, hp, hv⟩ := (hmem e.val).1 ⟨e, he, rfl⟩
        exact ⟨p, hp, by rw [hv, hl]⟩
      · obtain ⟨e', he', hv⟩ := (hmem p.2).2 ⟨p, hp, rfl⟩
        rw [← hv]
        exact hle e' he' (hall e' he')
end GI
end Go.Proofs.YtoblkmnhoiodcaaDoor
