/- Proved here: how the parser's state is kept over the append of a generated ref, a store into a record. Conditions as stated. -/
import Derived.Test.YtoblkmnhoiodcaaDoorGIJ
import Derived.Test.YtoblkmnhoiodcaaDoorAPX
namespace Go.Proofs.YtoblkmnhoiodcaaDoor
namespace GI
open Go.RowKit IM
set_option linter.unusedSimpArgs false
set_option linter.unusedVariables false
theorem info34 : (Tryd.prog.info? 34).map (fun i => (i.zero, i.size, i.bytes)) = some (some (.agg #[.int .u32 0, .int .u32 0]), 2, 8) := by kernel_rfl
theorem ownAt {w : World} {B : Nat} {e : TypeId} {sz : Nat} {v : Value} {n : Nat} {xs : List Value} (h : w.ownsRow B e sz v n xs) {k : Nat} (hk : v.ownBlock = some k) : ∃ cs, At w k e cs := AI.rowType h hk
theorem ownNe {w : World} {B : Nat} {e : TypeId} {sz : Nat} {v : Value} {n : Nat} {xs : List Value} (h : w.ownsRow B e sz v n xs) {b : Nat} {t : TypeId} {cs : Array Value} (hat : At w b t cs) (ht : e ≠ t) : v.ownBlock ≠ some b := fun hk => by
  obtain ⟨cs', h'⟩ := ownAt h hk
  exact atNe h' hat ht rfl
theorem ownNeM {w : World} {B : Nat} {e : TypeId} {sz : Nat} {v : Value} {n : Nat} {xs : List Value} (h : w.ownsRow B e sz v n xs) {b : Nat} {K : Type} {mk : K → Value} {L : List (K × Value)} (hp : MP mk w b L) : v.ownBlock ≠ some b := fun hk => by
  obtain ⟨cs', h'⟩ := ownAt h hk
  exact mapNe h' hp rfl
theorem ownNeO {w : World} {B B' : Nat} {e e' : TypeId} {sz sz' : Nat} {v v' : Value} {n n' : Nat} {xs xs' : List Value} (h : w.ownsRow B e sz v n xs) (h' : w.ownsRow B' e' sz' v' n' xs') (ht : e ≠ e') {k : Nat} (hk : v'.ownBlock = some k) : v.ownBlock ≠ some k := by
  obtain ⟨cs', hat⟩ := ownAt h' hk
  exact ownNe h hat ht
set_option maxRecDepth 100000 in
theorem genStep {V0 V : World} {B pb sb mi mn n : Nat} {xs : List Value} {ns : Nat} {ys : List Value} {ng : Nat} {gs : List Value} {Li Ln : List ((Int × Int) × Value)} (hG0 : GS V0 B pb sb mi mn n xs ns ys ng gs Li Ln) (hVb : Below V0.heap.size V0 V) (hz : B ≤ V.heap.size) (hng : ng ≤ 200000) (r1 r2 : Int) :
    ∃ a c g cap w1, V.cell? ⟨sb, 5, none⟩ = some (.slice a ng c) ∧ appRun Tryd.prog #[80, 80] 80 #[.slice a ng c, .slice (some ⟨V.heap.size, 0, none⟩) 1 1] ((V.alloc (.cells #[.int .u32 r1, .int .u32 r2] 34)).drew) = .ok (.slice (some ⟨g, 0, none⟩) (ng + 1) cap) w1 ∧
      w1.cell? ⟨sb, 5, none⟩ = some (.slice a ng c) ∧ w1.frozen? ⟨sb, 5, none⟩ = false ∧ V.heap.size < w1.heap.size ∧ w1.cell? ⟨pb, 187, none⟩ = some (.pointer (some ⟨sb, 0, none⟩)) ∧
      (∀ k, V0.heap.size ≤ k → k < V.heap.size → (w1.setCell ⟨sb, 5, none⟩ (.slice (some ⟨g, 0, none⟩) (ng + 1) cap)).heap[k]? = V.heap[k]?) ∧
      (GS (w1.setCell ⟨sb, 5, none⟩ (.slice (some ⟨g, 0, none⟩) (ng + 1) cap)) B pb sb mi mn n xs ns ys (ng + 1) (gs ++ [.int .u32 r1, .int .u32 r2]) Li Ln ∧
       KQ [77, 222, 34] [pb, sb, mi, mn] V (w1.setCell ⟨sb, 5, none⟩ (.slice (some ⟨g, 0, none⟩) (ng + 1) cap)) ∧ Below B V (w1.setCell ⟨sb, 5, none⟩ (.slice (some ⟨g, 0, none⟩) (ng + 1) cap))) := by
  have hG := hG0.below hVb
  have hlt := hG.lt
  have hlt0 := hG0.lt
  have hVz := hVb.size
  obtain ⟨a, c, cs, h10, h2, h30, h4⟩ := hG0.gen
  have h1 : At V sb 202 cs := h10.below hVb hlt0.2.1
  have h3 := ownKeep (w' := V) h30 (fun k cs ho ha => hVb.block k ha.lt)
  obtain ⟨i0, hi0, hz0, hz1, hz2⟩ := info_parts info34
  obtain ⟨g, cap, w1, hrun, hown, hgrow, hat, hgl⟩ := appRun_lies (P := Tryd.prog) ((V.alloc (.cells #[.int .u32 r1, .int .u32 r2] 34)).drew) 80 80 B 34 i0 _ 2 8 Tryd.underlying80 hi0 hz0 hz1 hz2 rfl (by omega) (.slice a ng c) ng gs (h3.alloc _) ⟨V.heap.size, 0, none⟩ 1 1 [.int .u32 r1, .int .u32 r2] rfl (World.news_of_block (cs := #[.int .u32 r1, .int .u32 r2]) (t := 34) (fr := (0, 0)) (heap_alloc_new V _)) (by simp [Value.oneCell']) (by omega) (by unfold maxLen; omega) (by omega) (by simp; omega) (V.heap.size + 1) (by simp)
  have oU : ((V.alloc (.cells #[.int .u32 r1, .int .u32 r2] 34)).drew).ownsRow B 34 2 (.slice a ng c) ng gs := h3.alloc _
  have kb : ∀ k, k < V.heap.size → (Value.slice a ng c).ownBlock ≠ some k → w1.heap[k]? = V.heap[k]? := fun k hk hne => (hgrow.block k (by simp; omega) (Ne.symm hne)).trans (Below.heap_alloc V _ k hk)
  have nsb := ownNe h3 h1 (by decide)
  have npb : (Value.slice a ng c).ownBlock ≠ some pb := fun e => h4 pb e rfl
  have hs1 : At w1 sb 202 cs := (kb sb hlt.2.1 nsb).trans h1
  have hgsz := hgrow.size
  simp at hgsz
  have hgg : g ≠ pb ∧ B ≤ g ∧ g ≠ sb := by
    rcases hat with h | h
    · exact ⟨fun e => npb (by rw [h, e]), (World.ownsRow.lt h3 g h).1, fun e => nsb (by rw [h, e])⟩
    · omega
  obtain ⟨hg1, hg2, hg3⟩ := hgg
  refine ⟨a, c, g, cap, w1, by rw [h1.cell]; exact h2, hrun, by rw [hs1.cell]; exact h2, hs1.frozen 5, by omega, (cellOf (kb pb hlt.1 npb)).trans hG.c187, fun k hk0 hk => (Below.heap_setCell _ _ _ k (by simp; omega)).trans (kb k hk (fun e => by have := (World.ownsRow.lt h30 k e).2; omega)), ?_, ?_, ?_⟩
  · have ks : ∀ k, k < V.heap.size → k ≠ sb → (Value.slice a ng c).ownBlock ≠ some k → (w1.setCell ⟨sb, 5, none⟩ (.slice (some ⟨g, 0, none⟩) (ng + 1) cap)).heap[k]? = V.heap[k]? := fun k hk hks hne => (Below.heap_setCell _ _ _ k (by simpa using hks)).trans (kb k hk hne)
    have ei := hG.mpi.of_block (ks mi hlt.2.2.1 (Ne.symm (mapNe h1 hG.mpi)) (ownNeM h3 hG.mpi))
    have en := hG.mpn.of_block (ks mn hlt.2.2.2 (Ne.symm (mapNe h1 hG.mpn)) (ownNeM h3 hG.mpn))
    have ep := ks pb hlt.1 hG.pns npb
    obtain ⟨⟨a1, c1, p1, p2, p3, p4⟩, ⟨a2, c2, q1, q2, q3, q4, q5, q6⟩, e1, e2, e3, _, _, _, b1, b2, b3, b4, ne1, ne2⟩ := hG
    have hsz : 5 < cs.size := by
      rcases Nat.lt_or_ge 5 cs.size with h | h
      · exact h
      · rw [Array.getElem?_eq_none h] at h2; cases h2
    exact ⟨⟨a1, c1, (cellOf ep).trans p1, (frozOf ep).trans p2, ownKeep p3 (fun k cs' ho ha => ks k ha.lt (atNe ha h1 (by decide)) (ownNeO h3 p3 (by decide) ho)), p4⟩,
      ⟨a2, c2, (cellOf ep).trans q1, (cellOf ep).trans q2, (frozOf ep).trans q3, (cellOf ep).trans q4, ownKeep q5 (fun k cs' ho ha => ks k ha.lt (atNe ha h1 (by decide)) (ownNeO h3 q5 (by decide) ho)), q6⟩,
      (cellOf ep).trans e1, (cellOf ep).trans e2, (cellOf ep).trans e3,
      ⟨some ⟨g, 0, none⟩, cap, _, hs1.set 5 _, by simp [hsz], NS.ownSet hown (by simp [Value.ownBlock]; exact hg3) 5 _, fun k hk => by simp [Value.ownBlock] at hk; omega⟩, ei, en, b1, b2, b3, b4, ne1, ne2⟩
  · refine ((((KQ.refl _ _ V).alloc _).drew).grown hgrow (fun k hk => .inr ⟨34, ?_⟩)).set sb 5 _ (.inr (.inl (by simp)))
    obtain ⟨cs', h'⟩ := ownAt h3 hk
    exact ⟨cs', by simp, (h'.alloc _).drew⟩
  · exact (Below.grown (((Below.refl B V).alloc hz _).drew) hgrow (by simp; omega) (fun k hk => (World.ownsRow.lt h3 k hk).1)).setCell (by simpa using hG.bs) _
theorem recStep {V : World} {B pb sb mi mn n : Nat} {xs : List Value} {ns : Nat} {ys : List Value} {ng : Nat} {gs : List Value} {Li Ln : List ((Int × Int) × Value)} (hG : GS V B pb sb mi mn (n + 1) xs ns ys ng gs Li Ln) :
    ∃ g c, V.cell? ⟨pb, 169, none⟩ = some (.slice (some ⟨g, 0, none⟩) (n + 1) c) ∧ n + 1 ≤ c ∧ (∀ i, i < (n + 1) * 15 → V.cell? ⟨g, i, none⟩ = xs[i]?) ∧ xs.length = (n + 1) * 15 ∧ (∀ i, V.frozen? ⟨g, i, none⟩ = false) ∧ g < V.heap.size ∧ g ≠ pb ∧ (∃ cur, At V g 77 cur) ∧
      ∀ (i : Nat) (u : Value), GS (V.setCell ⟨g, i, none⟩ u) B pb sb mi mn (n + 1) (xs.set i u) ns ys ng gs Li Ln ∧ KQ [77, 222, 34] [pb, sb, mi, mn] V (V.setCell ⟨g, i, none⟩ u) ∧ Below B V (V.setCell ⟨g, i, none⟩ u) := by
  have hlt := hG.lt
  obtain ⟨a, c, p1, p2, p3, p4⟩ := hG.recs
  obtain ⟨g, c', e, hg1, hg2⟩ := World.ownsRow.form p3 (by omega)
  simp only [Value.slice.injEq, true_and] at e
  obtain ⟨rfl, rfl⟩ := e
  obtain ⟨cur, hat⟩ := ownAt p3 (k := g) rfl
  have hcap : n + 1 ≤ c := by
    obtain ⟨_, ⟨e, _⟩ | ⟨g', cap, cur, e, _, _, hc, _⟩⟩ := p3
    · cases e
    · simp only [Value.slice.injEq] at e
      omega
  refine ⟨g, c, p1, hcap, fun i hi => World.ownsRow.cellAt p3 i hi, p3.1, fun i => World.ownsRow.frozenAt p3 i, hg2, fun e => p4 g rfl e, ⟨cur, hat⟩, fun i u => ?_⟩
  have ks : ∀ k, k ≠ g → (V.setCell ⟨g, i, none⟩ u).heap[k]? = V.heap[k]? := fun k hk => Below.heap_setCell _ _ _ k (by simpa using hk)
  have ngp : pb ≠ g := fun e => p4 g rfl e.symm
  obtain ⟨a3, c3, cs, h1, h2, h3, h4⟩ := hG.gen
  have ei := hG.mpi.of_block (ks mi (Ne.symm (mapNe hat hG.mpi)))
  have en := hG.mpn.of_block (ks mn (Ne.symm (mapNe hat hG.mpn)))
  have ep := ks pb ngp
  refine ⟨?_, (KQ.refl _ _ V).set g i u (.inr (.inr ⟨77, cur, by simp, hat⟩)), (Below.refl _ _).setCell (by simpa using hg1) _⟩
  obtain ⟨_, ⟨a2, c2, q1, q2, q3, q4, q5, q6⟩, e1, e2, e3, _, _, _, b1, b2, b3, b4, ne1, ne2⟩ := hG
  exact ⟨⟨_, c, (cellOf ep).trans p1, (frozOf ep).trans p2, (World.ownsRow.stored p3 i u).1, p4⟩,
    ⟨a2, c2, (cellOf ep).trans q1, (cellOf ep).trans q2, (frozOf ep).trans q3, (cellOf ep).trans q4, ownKeep q5 (fun k cs' ho ha => ks k (atNe ha hat (by decide))), q6⟩,
    (cellOf ep).trans e1, (cellOf ep).trans e2, (cellOf ep).trans e3,
    ⟨a3, c3, cs, (ks sb (atNe h1 hat (by decide))).trans h1, h2, ownKeep h3 (fun k cs' ho ha => ks k (atNe ha hat (by decide))), h4⟩, ei, en, b1, b2, b3, b4, ne1, ne2⟩
end GI
end Go.Proofs.YtoblkmnhoiodcaaDoor
