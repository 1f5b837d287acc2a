/- Proved here: the contract of generateImportStmt. Conditions as stated. -/
import Derived.Test.YtoblkmnhoiodcaaDoorGIL
import Derived.Test.YtoblkmnhoiodcaaDoorGIH
import Derived.WalkKit
import Derived.WalkSpells
import Derived.WalkLawsBesides
import Derived.Lib.Hide
import Derived.Lib.SliceRun
import Derived.Deep.RegionWith
import Derived.OwnWalk
import Derived.Laws.OwnMore
import Derived.BigRegion
import Derived.BigQuiet
import Derived.Deep.RegionHeld3
import Derived.Deep.RegionLaw
import Derived.Deep.AppendLies
import Derived.Deep.LoopGhost
import Derived.WideMake
import Derived.Maps.RangeWalk
import Derived.Deep.DeepCutAuto
import Derived.Deep.CutBlock
import Derived.Deep.CutRange
namespace Go.Proofs.YtoblkmnhoiodcaaDoor
open Go.RowKit
set_option linter.unusedSimpArgs false
set_option linter.unusedVariables false
namespace GI
open IM IB

/-- Where the import statement is said to lie, and how the world stands then. -/
def C1 (L : List (ByteArray × Value)) (st rl : Int) (w wx : World) : Prop := ∃ st', LocP L st rl st' ∧ At wx w.heap.size 45 #[.int .i32 st', .int .i32 rl] ∧ Below w.heap.size w wx
def LR (es : Array MapEntry) (clock ms r : Nat) (st : Int) (w : World) (s18 : Value) (wr : World) : Prop :=
  ∃ seen st' f, s18 = .bool f ∧ wr.heap[r]? = some (.mapIter (some ms) clock seen clock) ∧ wr.heap[ms]? = some (.map es clock) ∧ At wr w.heap.size 45 #[.int .i32 st', .int .i32 0] ∧ SeenP es seen st st' f ∧ Below w.heap.size w wr
def iters (es : Array MapEntry) (r : Nat) (wr : World) : Nat := (leftOf es (wr.iterSeen r)).size
theorem iters_of {es : Array MapEntry} {r : Nat} {wr : World} {b c d : Nat} {seen : Array Nat} (h : wr.heap[r]? = some (.mapIter (some b) c seen d)) : iters es r wr = (leftOf es seen).size := by
  unfold iters World.iterSeen
  rw [h]

theorem tabsB {w w' : World} {a b B : Nat} (h : Lib.Utf8Tabs a b w) (hb : Below B w w') (ha : a < B) (hbb : b < B) : Lib.Utf8Tabs a b w' :=
  ⟨fun c hc => by rw [cellOf (hb.block a ha)]; exact h.1 c hc, fun i hi => ⟨by rw [cellOf (hb.block b hbb)]; exact (h.2 i hi).1, by rw [cellOf (hb.block b hbb)]; exact (h.2 i hi).2⟩⟩
/-- What generateImportStmt is handed besides the parser: the map of names, the aliases, the parts, the two indices; the globals that it reads. -/
structure IN (B pb sb mi mn ms m np c3 c4 : Nat) (L : List (ByteArray × Value)) (zs : List ByteArray) (a3 a4 : Option Addr) (pcs : List Value) (o1 o2 : Option (Nat × Int)) (W : World) : Prop where
  mp : MP mkS W ms L
  nm : ms ∉ [pb, sb, mi, mn]
  rs : m = 0 ∨ ∃ ib cs, a3 = some ⟨ib, 0, none⟩ ∧ At W ib 9 cs ∧ ib ∉ [pb, sb, mi, mn] ∧ m ≤ c3 ∧ ∀ i, i < m → cs[i]? = some (.string (zs.getD i ByteArray.empty))
  pt : W.ownsRow B 55 11 (.slice a4 np c4) np pcs
  np' : ∀ k, (Value.slice a4 np c4).ownBlock = some k → k ∉ [pb, sb, mi, mn]
  p1 : ∀ p, o1 = some p → At W p.1 24 #[.int .u32 p.2] ∧ p.1 ∉ [pb, sb, mi, mn]
  p2 : ∀ p, o2 = some p → At W p.1 24 #[.int .u32 p.2] ∧ p.1 ∉ [pb, sb, mi, mn]
  tb : Lib.Utf8Tabs 2 3 W
  g0 : W.cell? ⟨0, 0, none⟩ = some (.int .u32 4294967295)
  g1 : W.cell? ⟨0, 1, none⟩ = some (.int .u32 4294967295)
  b3 : 3 < B
theorem IN.keep {B pb sb mi mn ms m np c3 c4 : Nat} {L : List (ByteArray × Value)} {zs : List ByteArray} {a3 a4 : Option Addr} {pcs : List Value} {o1 o2 : Option (Nat × Int)} {W W' : World} (h : IN B pb sb mi mn ms m np c3 c4 L zs a3 a4 pcs o1 o2 W) (hk : KQ [77, 222, 34] [pb, sb, mi, mn] W W') (hb : Below B W W') : IN B pb sb mi mn ms m np c3 c4 L zs a3 a4 pcs o1 o2 W' := by
  obtain ⟨h1, h2, h3, h4, h5, h6, h7, h8, h9, h10, h11⟩ := h
  refine ⟨hk.map h1 h2, h2, ?_, ownKeep h4 (fun k cs ho ha => (hk.at ha (h5 k ho) (by decide)).trans ha.symm), h5, fun p hp => ⟨hk.at (h6 p hp).1 (h6 p hp).2 (by decide), (h6 p hp).2⟩, fun p hp => ⟨hk.at (h7 p hp).1 (h7 p hp).2 (by decide), (h7 p hp).2⟩, tabsB h8 hb (by omega) (by omega), (cellOf (hb.block 0 (by omega))).trans h9, (cellOf (hb.block 0 (by omega))).trans h10, h11⟩
  rcases h3 with h3 | ⟨ib, cs, e, ha, hn, hc, hs⟩
  · exact .inl h3
  · exact .inr ⟨ib, cs, e, hk.at ha hn (by decide), hn, hc, hs⟩
theorem info57 : (Tryd.prog.info? 57).map (fun i => (i.zero, i.size, i.bytes)) = some (some (.agg #[.int .u32 0, .int .u32 0, .bool false]), 3, 12) := by kernel_rfl
theorem info211 : (Tryd.prog.info? 211).map (fun i => (i.zero, i.size, i.bytes)) = some (some (.agg #[.string ⟨#[]⟩, .string ⟨#[]⟩, .int .i32 0, .int .i32 0, .int .u32 0, .int .u32 0]), 6, 48) := by kernel_rfl
theorem belMono {B : Nat} {w W : World} (h : Below w.heap.size w W) (hz : B ≤ w.heap.size) : Below B w W := h.mono hz
theorem IN.below {B pb sb mi mn ms m np c3 c4 : Nat} {L : List (ByteArray × Value)} {zs : List ByteArray} {a3 a4 : Option Addr} {pcs : List Value} {o1 o2 : Option (Nat × Int)} {W W' : World} (h : IN B pb sb mi mn ms m np c3 c4 L zs a3 a4 pcs o1 o2 W) (hb : Below W.heap.size W W') (hz : B ≤ W.heap.size) : IN B pb sb mi mn ms m np c3 c4 L zs a3 a4 pcs o1 o2 W' := h.keep (KQ.below hb) (belMono hb hz)
theorem kqSym {pb sb mi mn : Nat} {w w' : World} (h : NS.Kp pb w w') (hs : w.heap.size ≤ w'.heap.size) : KQ [77, 222, 34] [pb, sb, mi, mn] w w' :=
  ⟨hs, fun k hk hm ht => h k hk (fun e => hm (by simp [e])) (fun cs fr => ht cs 222 fr (by simp))⟩
theorem kqRec {pb sb mi mn : Nat} {w w' : World} (h : AI.Kp pb w w') (hs : w.heap.size ≤ w'.heap.size) : KQ [77, 222, 34] [pb, sb, mi, mn] w w' :=
  ⟨hs, fun k hk hm ht => h k hk (fun e => hm (by simp [e])) (fun cs fr => ht cs 77 fr (by simp))⟩

def ix : Option (Nat × Int) → Int
  | none => 0
  | some p => cx p.2
def recOf (tx : ByteArray) (st ln s1 s2 : Int) : List Value := [.pointer none, .pointer none, .string tx, .string ⟨#[]⟩, .string ⟨#[]⟩, .string ⟨#[]⟩, .int .u8 0, .int .i32 st, .int .i32 ln, .int .i32 0, .int .u32 s1, .int .u32 s2, .int .u16 0, .int .u8 0, .int .u8 1]
theorem recSet1 {n : Nat} {xs : List Value} (h : xs.length = n * 15) (tx : ByteArray) (st ln s1 s2 v : Int) : (xs ++ recOf tx st ln s1 s2).set (n * 15 + 10) (.int .u32 v) = xs ++ recOf tx st ln v s2 := by
  rw [List.set_append_right _ _ (by omega), h, Nat.add_sub_cancel_left]
  rfl
theorem recSet2 {n : Nat} {xs : List Value} (h : xs.length = n * 15) (tx : ByteArray) (st ln s1 s2 v : Int) : (xs ++ recOf tx st ln s1 s2).set (n * 15 + 11) (.int .u32 v) = xs ++ recOf tx st ln s1 v := by
  rw [List.set_append_right _ _ (by omega), h, Nat.add_sub_cancel_left]
  rfl
theorem recAt1 {n : Nat} {xs : List Value} (h : xs.length = n * 15) (tx : ByteArray) (st ln s1 s2 : Int) : (xs ++ recOf tx st ln s1 s2)[n * 15 + 10]? = some (.int .u32 s1) := by
  rw [List.getElem?_append_right (by omega), h, Nat.add_sub_cancel_left]
  rfl
theorem recAt2 {n : Nat} {xs : List Value} (h : xs.length = n * 15) (tx : ByteArray) (st ln s1 s2 : Int) : (xs ++ recOf tx st ln s1 s2)[n * 15 + 11]? = some (.int .u32 s2) := by
  rw [List.getElem?_append_right (by omega), h, Nat.add_sub_cancel_left]
  rfl
/-- The state behind the new record. -/
structure SBt (B pb sb mi mn ms m np c3 c4 n1 : Nat) (L : List (ByteArray × Value)) (zs : List ByteArray) (a3 a4 : Option Addr) (pcs : List Value) (o1 o2 : Option (Nat × Int)) (XS : List Value) (ns1 : Nat) (YS : List Value) (ng1 : Nat) (GL : List Value) (Li Ln : List ((Int × Int) × Value)) (st' rl nsv : Int) (nb db cb ib : Nat) (w W : World) : Prop where
  gs : GS W B pb sb mi mn n1 XS ns1 YS ng1 GL Li Ln
  inn : IN B pb sb mi mn ms m np c3 c4 L zs a3 a4 pcs o1 o2 W
  a0 : At W w.heap.size 45 #[.int .i32 st', .int .i32 rl]
  an : At W nb 34 #[.int .u32 0, .int .u32 nsv]
  ad : ∃ D, At W db 57 D ∧ D.size = (m + 1) * 3
  ac : ∃ D, At W cb 211 D ∧ D.size = m * 6
  ai : At W ib 207 #[.slice (some ⟨cb, 0, none⟩) m m]
  kq : KQ [77, 222, 34] [pb, sb, mi, mn] w W
  bl : Below B w W
  ge : w.heap.size < nb ∧ w.heap.size < db ∧ w.heap.size < cb ∧ w.heap.size < ib

theorem SBt.step {B pb sb mi mn ms m np c3 c4 n1 : Nat} {L : List (ByteArray × Value)} {zs : List ByteArray} {a3 a4 : Option Addr} {pcs : List Value} {o1 o2 : Option (Nat × Int)} {XS XS' : List Value} {ns1 : Nat} {YS : List Value} {ng1 : Nat} {GL : List Value} {Li Ln : List ((Int × Int) × Value)} {st' rl nsv : Int} {nb db cb ib : Nat} {w W : World}
    (h : SBt B pb sb mi mn ms m np c3 c4 n1 L zs a3 a4 pcs o1 o2 XS ns1 YS ng1 GL Li Ln st' rl nsv nb db cb ib w W) {g i : Nat} {u : Value} (hg : ∃ cur, At W g 77 cur) (hgs : GS (W.setCell ⟨g, i, none⟩ u) B pb sb mi mn n1 XS' ns1 YS ng1 GL Li Ln) (hk : KQ [77, 222, 34] [pb, sb, mi, mn] W (W.setCell ⟨g, i, none⟩ u)) (hb : Below B W (W.setCell ⟨g, i, none⟩ u)) (o : Obj) :
    SBt B pb sb mi mn ms m np c3 c4 n1 L zs a3 a4 pcs o1 o2 XS' ns1 YS ng1 GL Li Ln st' rl nsv nb db cb ib w ((W.setCell ⟨g, i, none⟩ u).alloc o).drew := by
  obtain ⟨cur, hg⟩ := hg
  obtain ⟨h1, h2, h3, h4, ⟨D, h5, h6⟩, ⟨C, h7, h8⟩, h9, h10, h11, h12⟩ := h
  have bl : Below (W.setCell ⟨g, i, none⟩ u).heap.size (W.setCell ⟨g, i, none⟩ u) ((W.setCell ⟨g, i, none⟩ u).alloc o).drew := ((Below.refl _ _).alloc (Nat.le_refl _) _).drew
  have hBz : B ≤ (W.setCell ⟨g, i, none⟩ u).heap.size := by have := hgs.lt; have := hgs.bp; omega
  have far : ∀ {k t : Nat} {cs : Array Value}, At W k t cs → t ≠ 77 → At ((W.setCell ⟨g, i, none⟩ u).alloc o).drew k t cs := fun ha ht => ((ha.far (by simpa using atNe ha hg ht) u).alloc o).drew
  exact ⟨hgs.below bl, (h2.keep hk hb).below bl hBz, far h3 (by decide), far h4 (by decide), ⟨D, far h5 (by decide), h6⟩, ⟨C, far h7 (by decide), h8⟩, far h9 (by decide), (h10.trans hk).trans (KQ.below bl), (h11.trans hb).trans (belMono bl hBz), h12⟩

theorem atSome {w : World} {b : Nat} {t : TypeId} {D : Array Value} (h : At w b t D) {k : Nat} (hk : k < D.size) : ∃ v, w.cell? ⟨b, k, none⟩ = some v := ⟨D[k], by rw [h.cell, Array.getElem?_eq_getElem hk]⟩
/-- The two maps behind i aliases. -/
def fLi (L : List (ByteArray × Value)) (zs : List ByteArray) (Li : List ((Int × Int) × Value)) : Nat → List ((Int × Int) × Value)
  | 0 => Li
  | i + 1 => upd (fLi L zs Li i) (refOf (lk L (zs.getD i ByteArray.empty))) (.bool true)
def niOf (L : List (ByteArray × Value)) (a : ByteArray) (ns : Int) (n : Nat) : Value := .agg #[.string a, .slice none 0 0, .int .i32 (locOf (lk L a)), .int .u32 0, .int .u32 ns, .int .u32 (n : Int), .bool false, .bool false]
def fLn (L : List (ByteArray × Value)) (zs : List ByteArray) (ns : Int) (n : Nat) (Ln : List ((Int × Int) × Value)) : Nat → List ((Int × Int) × Value)
  | 0 => Ln
  | i + 1 => upd (fLn L zs ns n Ln i) (refOf (lk L (zs.getD i ByteArray.empty))) (niOf L (zs.getD i ByteArray.empty) ns n)
/-- The declared symbols behind i aliases. -/
def DOK (L : List (ByteArray × Value)) (zs : List ByteArray) (ns : Int) (D : Array Value) (i : Nat) : Prop :=
  D[0]? = some (.int .u32 0) ∧ D[1]? = some (.int .u32 ns) ∧ D[2]? = some (.bool true) ∧ ∀ j, j < i → D[(j + 1) * 3]? = some (.int .u32 (refOf (lk L (zs.getD j ByteArray.empty))).1) ∧ D[(j + 1) * 3 + 1]? = some (.int .u32 (refOf (lk L (zs.getD j ByteArray.empty))).2) ∧ D[(j + 1) * 3 + 2]? = some (.bool true)
def LSt (B pb sb mi mn ms m np c3 c4 n1 : Nat) (L : List (ByteArray × Value)) (zs : List ByteArray) (a3 a4 : Option Addr) (pcs : List Value) (o1 o2 : Option (Nat × Int)) (XS : List Value) (ns1 : Nat) (YS : List Value) (ng1 : Nat) (GL : List Value) (Li Ln : List ((Int × Int) × Value)) (st' rl nsv : Int) (n nb db cb ib : Nat) (w : World) (i : Nat) (W : World) : Prop :=
  SBt B pb sb mi mn ms m np c3 c4 n1 L zs a3 a4 pcs o1 o2 XS ns1 YS ng1 GL (fLi L zs Li i) (fLn L zs nsv n Ln i) st' rl nsv nb db cb ib w W ∧ ∃ D, At W db 57 D ∧ D.size = (m + 1) * 3 ∧ DOK L zs nsv D i
theorem dok0 {L : List (ByteArray × Value)} {zs : List ByteArray} {ns : Int} {D : Array Value} {m : Nat} (h : D.size = (m + 1) * 3) : DOK L zs ns (((D.setIfInBounds 0 (.int .u32 0)).setIfInBounds 1 (.int .u32 ns)).setIfInBounds 2 (.bool true)) 0 := by
  have h0 : 0 < D.size := by omega
  have h1 : 1 < D.size := by omega
  have h2 : 2 < D.size := by omega
  exact ⟨by simp [Array.getElem?_setIfInBounds, h0], by simp [Array.getElem?_setIfInBounds, h1], by simp [Array.getElem?_setIfInBounds, h2], fun j hj => absurd hj (by omega)⟩
theorem dokS {L : List (ByteArray × Value)} {zs : List ByteArray} {ns : Int} {D : Array Value} {m i : Nat} (h : D.size = (m + 1) * 3) (hi : i < m) (hd : DOK L zs ns D i) (s j : Int) (hr : refOf (lk L (zs.getD i ByteArray.empty)) = (s, j)) :
    DOK L zs ns (((D.setIfInBounds ((i + 1) * 3) (.int .u32 s)).setIfInBounds ((i + 1) * 3 + 1) (.int .u32 j)).setIfInBounds ((i + 1) * 3 + 2) (.bool true)) (i + 1) := by
  obtain ⟨d0, d1, d2, d3⟩ := hd
  have far : ∀ k, k < (i + 1) * 3 → (((D.setIfInBounds ((i + 1) * 3) (.int .u32 s)).setIfInBounds ((i + 1) * 3 + 1) (.int .u32 j)).setIfInBounds ((i + 1) * 3 + 2) (.bool true))[k]? = D[k]? := fun k hk => by
    rw [Array.getElem?_setIfInBounds_ne (by omega), Array.getElem?_setIfInBounds_ne (by omega), Array.getElem?_setIfInBounds_ne (by omega)]
  refine ⟨(far 0 (by omega)).trans d0, (far 1 (by omega)).trans d1, (far 2 (by omega)).trans d2, fun k hk => ?_⟩
  by_cases e : k = i
  · subst e
    rw [hr]
    have h0 : (k + 1) * 3 < D.size := by omega
    have h1 : (k + 1) * 3 + 1 < D.size := by omega
    have h2 : (k + 1) * 3 + 2 < D.size := by omega
    exact ⟨by simp [Array.getElem?_setIfInBounds, h0], by simp [Array.getElem?_setIfInBounds, h1], by simp [Array.getElem?_setIfInBounds, h2]⟩
  · obtain ⟨e0, e1, e2⟩ := d3 k (by omega)
    exact ⟨(far _ (by omega)).trans e0, (far _ (by omega)).trans e1, (far _ (by omega)).trans e2⟩
/-- Blocks of the call's own that the state does not stand on may change. -/
theorem SBt.keep {B pb sb mi mn ms m np c3 c4 n1 : Nat} {L : List (ByteArray × Value)} {zs : List ByteArray} {a3 a4 : Option Addr} {pcs : List Value} {o1 o2 : Option (Nat × Int)} {XS : List Value} {ns1 : Nat} {YS : List Value} {ng1 : Nat} {GL : List Value} {Li Ln Li' Ln' : List ((Int × Int) × Value)} {st' rl nsv : Int} {nb db cb ib : Nat} {w W W' : World}
    (h : SBt B pb sb mi mn ms m np c3 c4 n1 L zs a3 a4 pcs o1 o2 XS ns1 YS ng1 GL Li Ln st' rl nsv nb db cb ib w W) (hlt : pb < w.heap.size ∧ sb < w.heap.size ∧ B ≤ w.heap.size)
    (hi : MP mkR W' mi Li') (hn : MP mkR W' mn Ln') (hk : KQ [57, 211] [mi, mn] W W') (hkw : ∀ k, k < w.heap.size → k ≠ mi → k ≠ mn → W'.heap[k]? = W.heap[k]?) (hb : Below B W W') (hd : ∃ D, At W' db 57 D ∧ D.size = (m + 1) * 3) (hc : ∃ D, At W' cb 211 D ∧ D.size = m * 6) :
    SBt B pb sb mi mn ms m np c3 c4 n1 L zs a3 a4 pcs o1 o2 XS ns1 YS ng1 GL Li' Ln' st' rl nsv nb db cb ib w W' := by
  obtain ⟨h1, h2, h3, h4, h5, h6, h9, h10, h11, h12⟩ := h
  have ni := mapNeC h1.c187 h1.mpi
  have nn := mapNeC h1.c187 h1.mpn
  obtain ⟨g1, g2, csb, hsb, _⟩ := h1.gen
  have kq : ∀ {k t : Nat} {cs : Array Value}, At W k t cs → t ≠ 57 → t ≠ 211 → W'.heap[k]? = W.heap[k]? := fun {k t cs} ha e1 e2 => hk.2 k ha.lt (by
    have := mapNe ha h1.mpi
    have := mapNe ha h1.mpn
    simp; omega) (fun cs' t' fr ht e => by
    unfold At at ha
    rw [ha] at e
    simp only [Option.some.injEq, Obj.cells.injEq] at e
    obtain ⟨_, rfl, _⟩ := e
    simp at ht
    rcases ht with ht | ht
    · exact e1 ht
    · exact e2 ht)
  have gs := h1.keep (hkw pb hlt.1 ni nn) (kq hsb (by decide) (by decide)) hi hn (fun k t cs ht _ _ ha => kq ha (by rintro rfl; simp at ht) (by rintro rfl; simp at ht))
  have kin : KQ [77, 222, 34] [pb, sb, mi, mn] w W' := h10.trans' hk.1 (fun k hk1 hm => hkw k hk1 (fun e => hm (by simp [e])) (fun e => hm (by simp [e])))
  have hmm : MP mkS W' ms L := h2.mp.of_block (hk.2 ms h2.mp.lt (by have := h2.nm; simp at this; simp; omega) (fun cs t fr _ e => by obtain ⟨es, c, h1, _⟩ := h2.mp; rw [h1] at e; cases e))
  obtain ⟨i1, i2, i3, i4, i5, i6, i7, i8, i9, i10, i11⟩ := h2
  refine ⟨gs, ⟨hmm, i2, ?_, ownKeep i4 (fun k cs ho ha => kq ha (by decide) (by decide)), i5, fun p hp => ⟨(kq (i6 p hp).1 (by decide) (by decide)).trans (i6 p hp).1, (i6 p hp).2⟩, fun p hp => ⟨(kq (i7 p hp).1 (by decide) (by decide)).trans (i7 p hp).1, (i7 p hp).2⟩, tabsB i8 hb (by omega) (by omega), (cellOf (hb.block 0 (by omega))).trans i9, (cellOf (hb.block 0 (by omega))).trans i10, i11⟩, (kq h3 (by decide) (by decide)).trans h3, (kq h4 (by decide) (by decide)).trans h4, hd, hc, (kq h9 (by decide) (by decide)).trans h9, kin, h11.trans hb, h12⟩
  rcases i3 with i3 | ⟨ib, cs, e, ha, hn, hc, hs⟩
  · exact .inl i3
  · exact .inr ⟨ib, cs, e, (kq ha (by decide) (by decide)).trans ha, hn, hc, hs⟩
theorem SBt.decl {B pb sb mi mn ms m np c3 c4 n1 : Nat} {L : List (ByteArray × Value)} {zs : List ByteArray} {a3 a4 : Option Addr} {pcs : List Value} {o1 o2 : Option (Nat × Int)} {XS : List Value} {ns1 : Nat} {YS : List Value} {ng1 : Nat} {GL : List Value} {Li Ln : List ((Int × Int) × Value)} {st' rl nsv : Int} {nb db cb ib : Nat} {w W : World}
    (h : SBt B pb sb mi mn ms m np c3 c4 n1 L zs a3 a4 pcs o1 o2 XS ns1 YS ng1 GL Li Ln st' rl nsv nb db cb ib w W) (hlt : pb < w.heap.size ∧ sb < w.heap.size ∧ B ≤ w.heap.size) {D : Array Value} (hD : At W db 57 D) (hDs : D.size = (m + 1) * 3) (v1 v2 v3 : Value) (i : Nat) :
    SBt B pb sb mi mn ms m np c3 c4 n1 L zs a3 a4 pcs o1 o2 XS ns1 YS ng1 GL Li Ln st' rl nsv nb db cb ib w (((W.setCell ⟨db, i, none⟩ v1).setCell ⟨db, i + 1, none⟩ v2).setCell ⟨db, i + 2, none⟩ v3) := by
  have ks : ∀ k, k ≠ db → (((W.setCell ⟨db, i, none⟩ v1).setCell ⟨db, i + 1, none⟩ v2).setCell ⟨db, i + 2, none⟩ v3).heap[k]? = W.heap[k]? := fun k hk => by
    rw [Below.heap_setCell _ _ _ k (by simpa using hk), Below.heap_setCell _ _ _ k (by simpa using hk), Below.heap_setCell _ _ _ k (by simpa using hk)]
  obtain ⟨C, hC, hCs⟩ := h.ac
  have hge := h.ge
  exact h.keep hlt (h.gs.mpi.of_block (ks mi (Ne.symm (mapNe hD h.gs.mpi)))) (h.gs.mpn.of_block (ks mn (Ne.symm (mapNe hD h.gs.mpn))))
    ⟨by simp [World.setCell], fun k hk _ hT => ks k (fun e => hT D 57 (0, 0) (by simp) (by rw [e]; exact hD))⟩ (fun k hk _ _ => ks k (by omega))
    ((((Below.refl _ _).setCell (by simp; omega) _).setCell (by simp; omega) _).setCell (by simp; omega) _) ⟨_, ((hD.set _ _).set _ _).set _ _, by simpa using hDs⟩ ⟨C, (ks cb (atNe hC hD (by decide))).trans hC, hCs⟩

/-- What stands behind the new part's append. -/
def EndP (B pb sb mi mn n1 np m : Nat) (XS : List Value) (ns1 : Nat) (YS : List Value) (ng1 : Nat) (GL : List Value) (Li Ln : List ((Int × Int) × Value)) (pcs : List Value) (D : Array Value) (st' : Int) (n tb ib q db g cap : Nat) (w w1 : World) : Prop :=
  w1.ownsRow B 55 11 (.slice (some ⟨g, 0, none⟩) (np + 1) cap) (np + 1) (pcs ++ [.slice (some ⟨tb, 0, none⟩) 1 1, .slice none 0 0, .slice (some ⟨ib, 0, none⟩) 1 1, .slice (some ⟨db, 0, none⟩) (m + 1) (m + 1), .map none, .map none, .map none, .slice none 0 0, .bool false, .bool false, .bool false]) ∧ g ∉ [pb, sb, mi, mn] ∧
  At w1 tb 61 #[.iface 212 (.pointer (some ⟨q, 0, none⟩)), .int .i32 st'] ∧ At w1 ib 24 #[.int .u32 (n : Int)] ∧ At w1 db 57 D ∧
  GS w1 B pb sb mi mn n1 XS ns1 YS ng1 GL Li Ln ∧ KQ [77, 222, 34, 55] [pb, sb, mi, mn] w w1 ∧ Below B w w1 ∧ w.heap.size < tb ∧ w.heap.size < ib ∧ w.heap.size < db
theorem info55 : (Tryd.prog.info? 55).map (fun i => (i.zero, i.size, i.bytes)) = some (some (.agg #[.slice none 0 0, .slice none 0 0, .slice none 0 0, .slice none 0 0, .map none, .map none, .map none, .slice none 0 0, .bool false, .bool false, .bool false]), 11, 152) := by kernel_rfl
set_option maxRecDepth 100000 in
theorem endStep {B pb sb mi mn ms m np c3 c4 n1 n : Nat} {L : List (ByteArray × Value)} {zs : List ByteArray} {a3 a4 : Option Addr} {pcs : List Value} {o1 o2 : Option (Nat × Int)} {XS : List Value} {ns1 : Nat} {YS : List Value} {ng1 : Nat} {GL : List Value} {Li Ln : List ((Int × Int) × Value)} {st' rl nsv : Int} {nb db cb ib : Nat} {w W : World}
    (h : SBt B pb sb mi mn ms m np c3 c4 n1 L zs a3 a4 pcs o1 o2 XS ns1 YS ng1 GL Li Ln st' rl nsv nb db cb ib w W) (hz : B ≤ w.heap.size) {D : Array Value} (hD : At W db 57 D) (hnp : np ≤ 200000) :
    ∃ g cap w1, appRun Tryd.prog #[37, 37] 37 #[.slice a4 np c4, .slice (some ⟨W.heap.size + 1 + 1 + 1, 0, none⟩) 1 1] ((((W.alloc (.cells #[.int .u32 (n : Int)] 24)).alloc (.cells #[.pointer none, .pointer (some ⟨ib, 0, none⟩), .pointer none, .int .u32 0, .int .u32 nsv, .int .u32 (n : Int), .bool true] 217)).alloc (.cells #[.iface 212 (.pointer (some ⟨W.heap.size + 1, 0, none⟩)), .int .i32 st'] 61)).alloc (.cells #[.slice (some ⟨W.heap.size + 1 + 1, 0, none⟩) 1 1, .slice none 0 0, .slice (some ⟨W.heap.size, 0, none⟩) 1 1, .slice (some ⟨db, 0, none⟩) (m + 1) (m + 1), .map none, .map none, .map none, .slice none 0 0, .bool false, .bool false, .bool false] 55)) = .ok (.slice (some ⟨g, 0, none⟩) (np + 1) cap) w1 ∧
      EndP B pb sb mi mn n1 np m XS ns1 YS ng1 GL Li Ln pcs D st' n (W.heap.size + 1 + 1) W.heap.size (W.heap.size + 1) db g cap w w1 := by
  obtain ⟨i0, hi0, hz0, hz1, hz2⟩ := info_parts info55
  obtain ⟨V1, hV1⟩ : ∃ V, V = W.alloc (.cells #[.int .u32 (n : Int)] 24) := ⟨_, rfl⟩
  obtain ⟨V2, hV2⟩ : ∃ V, V = V1.alloc (.cells #[.pointer none, .pointer (some ⟨ib, 0, none⟩), .pointer none, .int .u32 0, .int .u32 nsv, .int .u32 (n : Int), .bool true] 217) := ⟨_, rfl⟩
  obtain ⟨V3, hV3⟩ : ∃ V, V = V2.alloc (.cells #[.iface 212 (.pointer (some ⟨W.heap.size + 1, 0, none⟩)), .int .i32 st'] 61) := ⟨_, rfl⟩
  have z1 : V1.heap.size = W.heap.size + 1 := by rw [hV1]; simp
  have z2 : V2.heap.size = W.heap.size + 1 + 1 := by rw [hV2]; simp [z1]
  have z3 : V3.heap.size = W.heap.size + 1 + 1 + 1 := by rw [hV3]; simp [z2]
  have A1 : At V1 W.heap.size 24 #[.int .u32 (n : Int)] := by rw [hV1]; exact At.new W 24 _
  have A3 : At V3 (W.heap.size + 1 + 1) 61 #[.iface 212 (.pointer (some ⟨W.heap.size + 1, 0, none⟩)), .int .i32 st'] := by
    have := At.new V2 61 #[.iface 212 (.pointer (some ⟨W.heap.size + 1, 0, none⟩)), .int .i32 st']
    rw [z2] at this
    rw [hV3]; exact this
  have A13 : At V3 W.heap.size 24 #[.int .u32 (n : Int)] := by rw [hV3, hV2]; exact (A1.alloc _).alloc _
  have b3 : Below W.heap.size W V3 := by rw [hV3, hV2, hV1]; exact (((Below.refl _ _).alloc (Nat.le_refl _) _).alloc (by simp) _).alloc (by simp; omega) _
  rw [← hV1, ← hV2, ← hV3]
  obtain ⟨V4, hV4⟩ : ∃ V, V = V3.alloc (.cells #[.slice (some ⟨W.heap.size + 1 + 1, 0, none⟩) 1 1, .slice none 0 0, .slice (some ⟨W.heap.size, 0, none⟩) 1 1, .slice (some ⟨db, 0, none⟩) (m + 1) (m + 1), .map none, .map none, .map none, .slice none 0 0, .bool false, .bool false, .bool false] 55) := ⟨_, rfl⟩
  have hnews := World.news_of_block (w := V4) (B := V3.heap.size) (cs := #[.slice (some ⟨W.heap.size + 1 + 1, 0, none⟩) 1 1, .slice none 0 0, .slice (some ⟨W.heap.size, 0, none⟩) 1 1, .slice (some ⟨db, 0, none⟩) (m + 1) (m + 1), .map none, .map none, .map none, .slice none 0 0, .bool false, .bool false, .bool false]) (t := 55) (fr := (0, 0)) (by rw [hV4]; exact heap_alloc_new V3 _)
  rw [← hV4]
  have z4 : V4.heap.size = W.heap.size + 1 + 1 + 1 + 1 := by rw [hV4]; simp [z3]
  have b4 : Below W.heap.size W V4 := by rw [hV4]; exact b3.alloc (by omega) _
  have A34 : At V4 (W.heap.size + 1 + 1) 61 #[.iface 212 (.pointer (some ⟨W.heap.size + 1, 0, none⟩)), .int .i32 st'] := by rw [hV4]; exact A3.alloc _
  have A14 : At V4 W.heap.size 24 #[.int .u32 (n : Int)] := by rw [hV4]; exact A13.alloc _
  have hBW : B ≤ W.heap.size := Nat.le_trans hz h.kq.1
  have G4 := h.gs.below b4
  have I4 := h.inn.below b4 hBW
  have D4 : At V4 db 57 D := hD.below b4 hD.lt
  rw [z3] at hnews
  clear hV1 hV2 hV3 hV4 A1 A3 A13 b3 z1 z2 z3
  obtain ⟨g, cap, w1, hrun, hown, hgrow, hat, hgl⟩ := appRun_lies (P := Tryd.prog) V4 37 37 B 55 i0 _ 11 152 Tryd.underlying37 hi0 hz0 hz1 hz2 rfl (by omega) (.slice a4 np c4) np pcs I4.pt ⟨W.heap.size + 1 + 1 + 1, 0, none⟩ 1 1 [.slice (some ⟨W.heap.size + 1 + 1, 0, none⟩) 1 1, .slice none 0 0, .slice (some ⟨W.heap.size, 0, none⟩) 1 1, .slice (some ⟨db, 0, none⟩) (m + 1) (m + 1), .map none, .map none, .map none, .slice none 0 0, .bool false, .bool false, .bool false] rfl hnews (by simp [Value.oneCell']) (by omega) (by unfold maxLen; omega) (by omega) (by omega) V4.heap.size rfl
  have kb : ∀ {k t : Nat} {cs : Array Value}, At V4 k t cs → t ≠ 55 → w1.heap[k]? = V4.heap[k]? := fun {k t cs} ha ht => hgrow.block k ha.lt (Ne.symm (ownNe I4.pt ha (Ne.symm ht)))
  have nr : ∀ k, k ∈ [pb, sb, mi, mn] → (Value.slice a4 np c4).ownBlock ≠ some k := fun k hk e => I4.np' k e hk
  have hl4 := G4.lt
  have bp := hgrow.block pb hl4.1 (Ne.symm (nr pb (by simp)))
  have bs := hgrow.block sb hl4.2.1 (Ne.symm (nr sb (by simp)))
  have bi := hgrow.block mi hl4.2.2.1 (Ne.symm (nr mi (by simp)))
  have bn := hgrow.block mn hl4.2.2.2 (Ne.symm (nr mn (by simp)))
  have hge := h.ge
  have hlW := h.gs.lt
  refine ⟨g, cap, w1, hrun, hown, ?_, (kb A34 (by decide)).trans A34, (kb A14 (by decide)).trans A14, (kb D4 (by decide)).trans D4, G4.keep bp bs (G4.mpi.of_block bi) (G4.mpn.of_block bn) (fun k t cs ht _ _ ha => kb ha (by rintro rfl; simp at ht)), ?_, ?_, by have := h.kq.1; omega, ?_, by omega⟩
  · rcases hat with hat | hat
    · exact I4.np' g hat
    · simp; omega
  · refine KQ.grown ((h.kq.mono (T' := [77, 222, 34, 55]) (M' := [pb, sb, mi, mn]) (fun t ht => by simp at ht; rcases ht with h | h | h <;> simp [h]) (fun k hk => hk)).trans (KQ.below b4)) hgrow (fun k hk => .inr ⟨55, ?_⟩)
    obtain ⟨cs', h'⟩ := ownAt I4.pt hk
    exact ⟨cs', by simp, h'⟩
  · exact Below.grown (h.bl.trans (belMono b4 hBW)) hgrow (by omega) (fun k hk => (World.ownsRow.lt I4.pt k hk).1)
  · have := h.an.lt
    omega

/-- What generateImportStmt leaves. -/
def GP (B pb sb mi mn n ns ng np m : Nat) (xs ys gs pcs : List Value) (Li Ln : List ((Int × Int) × Value)) (L : List (ByteArray × Value)) (zs : List ByteArray) (path : ByteArray) (st rl : Int) (o1 o2 : Option (Nat × Int)) (w : World) (e : Ending) (w' : World) : Prop :=
  ∃ (st' : Int) (NM : ByteArray) (D : Array Value) (tb ib q db g cap : Nat), e = .returned (.tuple #[.slice (some ⟨g, 0, none⟩) (np + 1) cap, .int .u32 (n : Int)]) ∧ LocP L st rl st' ∧ D.size = (m + 1) * 3 ∧ DOK L zs (ns : Int) D m ∧
    EndP B pb sb mi mn (n + 1) np m (xs ++ recOf path st' rl (ix o1) (ix o2)) (ns + 1) (ys ++ NS.symOf NM 27) (ng + 1) (gs ++ [.int .u32 0, .int .u32 (ns : Int)]) (fLi L zs Li m) (fLn L zs (ns : Int) n Ln m) pcs D st' n tb ib q db g cap w w'

set_option maxRecDepth 100000 in
set_option maxHeartbeats 4000000 in
theorem genImport (B pb sb mi mn n ns ng np m ms : Nat) (xs ys gs pcs : List Value) (Li Ln : List ((Int × Int) × Value)) (L : List (ByteArray × Value)) (zs : List ByteArray) (path : ByteArray) (st rl : Int) (a3 : Option Addr) (c3 : Nat) (a4 : Option Addr) (c4 : Nat) (o1 o2 : Option (Nat × Int)) (w : World) (hG : GS w B pb sb mi mn n xs ns ys ng gs Li Ln) (hI : IN B pb sb mi mn ms m np c3 c4 L zs a3 a4 pcs o1 o2 w) (hLV : ∀ p ∈ L, LV p.2) (hz : B ≤ w.heap.size) (hps : path.size ≤ 1048576) (hm : m ≤ 65536) (hn : n ≤ 200000) (hns : ns ≤ 200000) (hng : ng ≤ 200000) (hnp : np ≤ 200000) :
    Calls Tryd.prog 20 #[.pointer (some ⟨pb, 0, none⟩), .string path, .agg #[.int .i32 st, .int .i32 rl], .slice a3 m c3, .slice a4 np c4, .map (some ms), .pointer (o1.map fun p => ⟨p.1, 0, none⟩), .pointer (o2.map fun p => ⟨p.1, 0, none⟩)] w (GP B pb sb mi mn n ns ng np m xs ys gs pcs Li Ln L zs path st rl o1 o2 w) := by
  have HG := Lib.hid hG
  have HI := Lib.hid hI
  have HML := Lib.hid hI.mp
  have HLV := Lib.hid hLV
  have hB0 := hI.b3
  obtain ⟨lpb, lsb, lmi, lmn⟩ := hG.lt
  have HXL := Lib.hid (show xs.length = n * 15 from by obtain ⟨_, _, _, _, h, _⟩ := hG.recs; exact h.1)
  clear hG hI hLV
  go_enter Tryd.func20, Tryd.ntmps20
  go_upto_if 30 with (fail)
  obtain ⟨W0, hW0⟩ : ∃ W0, W0 = w.alloc (.cells #[.int .i32 st, .int .i32 rl] 45) := ⟨_, rfl⟩
  have B0 := Lib.hid (show Below w.heap.size w W0 from by rw [hW0]; exact (Below.refl _ _).alloc (Nat.le_refl _) _)
  have A0 := Lib.hid (show At W0 w.heap.size 45 #[.int .i32 st, .int .i32 rl] from by rw [hW0]; exact At.new w 45 _)
  have z0 : w.heap.size < W0.heap.size := by rw [hW0]; simp
  have q0 : W0.cell? ⟨w.heap.size, 0, none⟩ = some (.int .i32 st) := by rw [A0.out.cell]; rfl
  have q1 : W0.cell? ⟨w.heap.size, 1, none⟩ = some (.int .i32 rl) := by rw [A0.out.cell]; rfl
  rw [← hW0]
  clear hW0
  go_cut [18, 20] from 28 to 49 (fun s18 s20 wx => C1 L st rl w wx)
  case first =>
    by_cases hrl : rl = 0
    · subst hrl
      obtain ⟨es, clock, hm, hE, hN1, hN2⟩ := (HML.out.of_block (B0.out.block ms HML.out.lt) : MP mkS W0 ms L)
      have hrange := run_range_map (P := Tryd.prog) W0 29 _ _ ms es clock Tryd.underlying29 hm
      have HM := Lib.hid hm
      have hms0 := HML.out.lt
      have HE := Lib.hid hE
      have HN1 := Lib.hid hN1
      have HN2 := Lib.hid hN2
      have hmlt := (Array.getElem?_eq_some_iff.1 hm).1
      clear hm hE hN1 hN2
      go_wp2_with fail
      go_loopw [18, 20] (fun s18 s20 wr => LR es clock ms W0.heap.size st w s18 wr) (fun _ _ wr => iters es W0.heap.size wr)
      case atStart => exact ⟨#[], st, true, rfl, heap_alloc_new W0 _, (heap_alloc_old W0 _ hmlt).trans HM.out, A0.out.alloc _, .inl ⟨rfl, rfl, rfl⟩, B0.out.alloc (by omega) _⟩
      case round =>
        rename World => wr
        obtain ⟨seen, st', f, rfl, hr, hb, hat, hS, hB⟩ := hrel
        have HR := Lib.hid hr
        have HSn := Lib.hid hS
        have HAT := Lib.hid hat
        have HB := Lib.hid hB
        have HBk := Lib.hid hb
        have hne : ms ≠ W0.heap.size := by omega
        have hrlt := (Array.getElem?_eq_some_iff.1 hr).1
        have hzlt := hat.lt
        rcases run_next_at (P := Tryd.prog) wr 0 W0.heap.size ms clock clock seen es clock hr hb HN1.out (Nat.le_refl _) with ⟨h0, hrun⟩ | ⟨e, he, w1, hw1, hrun⟩
        · clear hr hb hat hS hB hrange q0 q1
          go_wp2_with fail
          go_meet
          exact ⟨st', LocP.of_seen HE.out HSn.out h0, HAT.out, HB.out⟩
        · obtain ⟨V, hV⟩ : ∃ V, V = ChangeMaps.setBlock w1 W0.heap.size (.mapIter (some ms) clock (seen.push e.born) clock) := ⟨_, rfl⟩
          rw [← hV] at hrun
          have hz1 : w1.heap = wr.heap := by rcases hw1 with rfl | rfl <;> rfl
          have KV : ∀ k, k ≠ W0.heap.size → V.heap[k]? = wr.heap[k]? := fun k hk => by rw [hV]; simp [ChangeMaps.setBlock, hz1, Ne.symm hk]
          have hVr : V.heap[W0.heap.size]? = some (.mapIter (some ms) clock (seen.push e.born) clock) := by rw [hV]; simp [ChangeMaps.setBlock, hz1, hrlt]
          have hVm : V.heap[ms]? = some (.map es clock) := (KV ms hne).trans hb
          have hmem := mem_left he
          have hent := run_entry_at (P := Tryd.prog) V W0.heap.size ms clock seen es clock e hVr hVm hmem.1 HN2.out
          obtain ⟨l, s, i, hv⟩ : LV e.val := by
            obtain ⟨p, hp, hpe⟩ := (EL.vals HE.out e.val).1 ⟨e, hmem.1, rfl⟩
            rw [← hpe]
            exact HLV.out p hp
          have hVat : At V w.heap.size 45 #[.int .i32 st', .int .i32 0] := (KV _ (by omega)).trans hat
          have hVB : Below w.heap.size w V := ⟨by rw [hV]; rcases hw1 with rfl | rfl <;> exact hB.os, by rw [hV]; rcases hw1 with rfl | rfl <;> exact hB.tape, by rw [hV]; rcases hw1 with rfl | rfl <;> exact hB.output, by have := hB.size; rw [hV]; simp [ChangeMaps.setBlock, hz1]; exact this, fun k hk => (KV k (by omega)).trans (hB.block k hk)⟩
          rw [hv] at hrun hent
          have y0 : V.cell? ⟨w.heap.size, 0, none⟩ = some (.int .i32 st') := by rw [hVat.cell]; rfl
          have f0 := hVat.frozen 0
          have zV := hVat.lt
          have HVr := Lib.hid hVr
          have HVm := Lib.hid hVm
          have HVat := Lib.hid hVat
          have HVB := Lib.hid hVB
          have HV := Lib.hid hv
          have HH := Lib.hid he
          have HMM := Lib.hid hmem.1
          have hms := hmlt
          have zz : W0.heap.size < V.heap.size := (Array.getElem?_eq_some_iff.1 hVr).1
          have zm : ms < V.heap.size := (Array.getElem?_eq_some_iff.1 hVm).1
          clear hr hb hat hS hB hrange q0 q1 hV hz1 KV hVr hVm hVat hVB hv he hmem hw1
          have REL := Lib.hid (fun (st2 : Int) (Vx : World) (h1 : Vx.heap[W0.heap.size]? = some (.mapIter (some ms) clock (seen.push e.born) clock)) (h2 : Vx.heap[ms]? = some (.map es clock)) (h3 : At Vx w.heap.size 45 #[.int .i32 st2, .int .i32 0]) (h4 : Below w.heap.size w Vx) (h5 : (f = true ∧ st2 = l) ∨ (f = false ∧ l < st' ∧ st2 = l) ∨ (f = false ∧ ¬ l < st' ∧ st2 = st')) => show LR es clock ms W0.heap.size st w (.bool false) Vx from
            ⟨seen.push e.born, st2, false, rfl, h1, h2, h3, HSn.out.step HN2.out HMM.out l st2 (by rw [HV.out]; rfl) h5, h4⟩)
          have MEAS := Lib.hid (fun (Vx : World) (h1 : Vx.heap[W0.heap.size]? = some (.mapIter (some ms) clock (seen.push e.born) clock)) => show iters es W0.heap.size Vx < iters es W0.heap.size wr from by
            rw [iters_of h1, iters_of HR.out]
            exact left_shrinks es seen e HH.out)
          have K1 : ∀ (o : Obj) (u : Value) k, k ≠ w.heap.size → k < V.heap.size → ((V.setCell ⟨w.heap.size, 0, none⟩ u).alloc o).heap[k]? = V.heap[k]? := fun o u k hk hk2 => by
            rw [heap_alloc_old _ _ (by simpa [World.setCell] using hk2), Below.heap_setCell _ _ _ k (by simpa using hk)]
          have HK1 := Lib.hid K1
          clear K1
          cases f
          · by_cases hls : l < st'
            · go_wp2_with fail
              go_roundw
              case rel => exact REL.out l _ ((HK1.out _ _ _ (by omega) zz).trans HVr.out) ((HK1.out _ _ _ (by omega) zm).trans HVm.out) ((HVat.out.set 0 _).alloc _) ((HVB.out.setCell (by simp) _).alloc (by simp [World.setCell]; omega) _) (.inr (.inl ⟨rfl, hls, rfl⟩))
              case measure => exact MEAS.out _ ((HK1.out _ _ _ (by omega) zz).trans HVr.out)
            · have hls' : decide (l < st') = false := by simpa using hls
              go_wp2_with fail
              go_roundw
              case rel => exact REL.out st' _ ((heap_alloc_old _ _ zz).trans HVr.out) ((heap_alloc_old _ _ zm).trans HVm.out) (HVat.out.alloc _) (HVB.out.alloc (by omega) _) (.inr (.inr ⟨rfl, hls, rfl⟩))
              case measure => exact MEAS.out _ ((heap_alloc_old _ _ zz).trans HVr.out)
          · go_wp2_with fail
            go_roundw
            case rel => exact REL.out l _ ((HK1.out _ _ _ (by omega) zz).trans HVr.out) ((HK1.out _ _ _ (by omega) zm).trans HVm.out) ((HVat.out.set 0 _).alloc _) ((HVB.out.setCell (by simp) _).alloc (by simp [World.setCell]; omega) _) (.inl ⟨rfl, rfl⟩)
            case measure => exact MEAS.out _ ((HK1.out _ _ _ (by omega) zz).trans HVr.out)
    · have hrl' : (rl == 0) = false := beq_eq_false_iff_ne.2 hrl
      go_wp2_with fail
      go_meet
      exact ⟨st, ⟨fun _ => rfl, fun _ => rfl, fun h => absurd h hrl⟩, A0.out, B0.out⟩
  case rest =>
  rename World => W1
  obtain ⟨st', hloc, hat1, hb1⟩ := hcut
  have HI1 := Lib.hid (HI.out.below hb1 hz)
  have HG1 := Lib.hid (HG.out.below hb1)
  have HA1 := Lib.hid hat1
  have HB1 := Lib.hid hb1
  have HLOC := Lib.hid hloc
  have z1 := hat1.lt
  clear hat1 hb1 hloc HI HG HML
  go_wp2_with fail
  go_at_call 22
  refine (nameFrom path W1 hps HI1.out.tb).mono ?_
  rintro e W2 ⟨⟨nm, rfl, hnm⟩, hB2⟩
  have HI2 := Lib.hid (HI1.out.below hB2 (by omega))
  have HG2 := Lib.hid (HG1.out.below hB2)
  have HA2 := Lib.hid (HA1.out.below hB2 (by omega))
  have HB2 := Lib.hid (HB1.out.trans (hB2.mono HB1.out.size))
  have z2 := hB2.size
  clear hB2 HI1 HG1 HA1 HB1
  go_wp2_with fail
  go_at_call 21
  obtain ⟨NM, hNM⟩ : ∃ NM : ByteArray, NM = { data := #[105, 109, 112, 111, 114, 116, 95] } ++ nm := ⟨_, rfl⟩
  rw [← hNM]
  clear hNM hnm
  refine (NS.newSym B pb 0 ns ys NM 27 W2 (by omega) HG2.out.bp (by omega) (by omega) HI2.out.g0 HI2.out.g1 HG2.out.sym).mono ?_
  rintro e W3 ⟨rfl, hps3, hkp3, hbl3, hsb3⟩
  have KQ3 := Lib.hid (kqSym (sb := sb) (mi := mi) (mn := mn) hkp3 hbl3.size)
  have HG3 := Lib.hid (HG2.out.newSym hps3 hkp3 hsb3)
  have HI3 := Lib.hid (HI2.out.keep KQ3.out hbl3)
  have HA3 := Lib.hid (show At W3 w.heap.size 45 #[.int .i32 st', .int .i32 rl] from (hkp3.block HA2.out (by omega) (by decide)).trans HA2.out)
  have KW3 := Lib.hid ((KQ.below HB2.out).trans KQ3.out)
  have BW3 := Lib.hid ((belMono HB2.out hz).trans hbl3)
  have z3 := hbl3.size
  clear hps3 hkp3 hbl3 hsb3 KQ3 HG2 HI2 HA2 HB2
  go_wp2_with fail
  obtain ⟨W4, hW4⟩ : ∃ W4, W4 = W3.alloc (.cells #[.int .u32 0, .int .u32 (ns : Int)] 34) := ⟨_, rfl⟩
  have hb4 : Below W3.heap.size W3 W4 := by rw [hW4]; exact (Below.refl _ _).alloc (Nat.le_refl _) _
  have AN := Lib.hid (show At W4 W3.heap.size 34 #[.int .u32 0, .int .u32 (ns : Int)] from by rw [hW4]; exact At.new W3 34 _)
  have HG4 := Lib.hid (HG3.out.below hb4)
  have HI4 := Lib.hid (HI3.out.below hb4 (by omega))
  have HA4 := Lib.hid (HA3.out.below hb4 (by omega))
  have KW4 := Lib.hid (KW3.out.trans (KQ.below hb4))
  have BW4 := Lib.hid (BW3.out.trans (belMono hb4 (by omega)))
  have z4 : W3.heap.size < W4.heap.size := by rw [hW4]; simp
  rw [← hW4]
  have hb4' := Lib.hid hb4
  clear hW4 hb4 HI3 HA3 KW3 BW3
  obtain ⟨ga, gc, gg, gcap, U1, x1, hrun, x2, x3, x4, x8, hgk, hgs⟩ := genStep HG3.out hb4'.out (by omega) hng 0 (ns : Int)
  have HGS := Lib.hid hgs
  have HGK := Lib.hid hgk
  have x5 := HG4.out.c187
  have x6 : W4.cell? ⟨W3.heap.size, 0, none⟩ = some (.int .u32 0) := by rw [AN.out.cell]; rfl
  have x7 : W4.cell? ⟨W3.heap.size, 1, none⟩ = some (.int .u32 (ns : Int)) := by rw [AN.out.cell]; rfl
  have y1 : pb < W4.heap.size := by omega
  have y2 : sb < W4.heap.size := by omega
  have y3 : sb < U1.heap.size := by omega
  have y4 : pb < U1.heap.size := by omega
  clear hgs hgk hb4' HG3
  go_region
  obtain ⟨W5, hW5⟩ : ∃ W5, W5 = U1.setCell ⟨sb, 5, none⟩ (.slice (some ⟨gg, 0, none⟩) (ng + 1) gcap) := ⟨_, rfl⟩
  rw [← hW5] at HGS HGK
  rw [← hW5]
  clear hW5 x1 hrun x2 x3 x4 x8 x5 x6 x7 y1 y2 y3 y4
  have HG5 := Lib.hid HGS.out.1
  have HI5 := Lib.hid (HI4.out.keep HGS.out.2.1 HGS.out.2.2)
  have HA5 := Lib.hid (HGS.out.2.1.at HA4.out (by simp; omega) (by decide))
  have AN5 := Lib.hid (show At W5 W3.heap.size 34 #[.int .u32 0, .int .u32 (ns : Int)] from (HGK.out _ (Nat.le_refl _) z4).trans AN.out)
  have KW5 := Lib.hid (KW4.out.trans HGS.out.2.1)
  have BW5 := Lib.hid (BW4.out.trans HGS.out.2.2)
  have z5 := HGS.out.2.2.size
  clear HGS HGK HG4 HI4 HA4 AN KW4 BW4
  have hmk1 := made (P := Tryd.prog) (t := 49) (e := 57) Tryd.underlying49 info57 W5 (m + 1) (by omega) (by omega)
  rw [show ((m + 1 : Nat) : Int) = 1 + (m : Int) from by omega] at hmk1
  obtain ⟨W6, hW6⟩ : ∃ W6, W6 = W5.alloc (.cells (madeCells (Value.agg #[.int .u32 0, .int .u32 0, .bool false]).cells ((m + 1) * 3)) 57) := ⟨_, rfl⟩
  rw [← hW6] at hmk1
  have hmk2 := made (P := Tryd.prog) (t := 207) (e := 211) Tryd.underlying207 info211 W6 m (by omega) (by omega)
  obtain ⟨W7, hW7⟩ : ∃ W7, W7 = W6.alloc (.cells (madeCells (Value.agg #[.string ⟨#[]⟩, .string ⟨#[]⟩, .int .i32 0, .int .i32 0, .int .u32 0, .int .u32 0]).cells (m * 6)) 211) := ⟨_, rfl⟩
  rw [← hW7] at hmk2
  have BW67 : Below W5.heap.size W5 W7 := by rw [hW7, hW6]; exact ((Below.refl _ _).alloc (Nat.le_refl _) _).alloc (by simp) _
  have AD7 : At W7 W5.heap.size 57 (madeCells (Value.agg #[.int .u32 0, .int .u32 0, .bool false]).cells ((m + 1) * 3)) := by rw [hW7, hW6]; exact (At.new W5 57 _).alloc _
  have AC7 : At W7 W6.heap.size 211 (madeCells (Value.agg #[.string ⟨#[]⟩, .string ⟨#[]⟩, .int .i32 0, .int .i32 0, .int .u32 0, .int .u32 0]).cells (m * 6)) := by rw [hW7]; exact At.new W6 211 _
  have z6 : W5.heap.size < W6.heap.size := by rw [hW6]; simp
  have z7 : W6.heap.size < W7.heap.size := by rw [hW7]; simp
  have HBW67 := Lib.hid BW67
  have HAD7 := Lib.hid AD7
  have HAC7 := Lib.hid AC7
  have HA7 := HA5.out.below BW67 (by omega)
  have p0 : W7.cell? ⟨w.heap.size, 0, none⟩ = some (.int .i32 st') := by rw [HA7.cell]; rfl
  have p1 : W7.cell? ⟨w.heap.size, 1, none⟩ = some (.int .i32 rl) := by rw [HA7.cell]; rfl
  have p2 := HA7.lt
  clear hW6 hW7 BW67 AD7 AC7 HA7
  go_wp2_with fail
  obtain ⟨W8, hW8⟩ : ∃ W8, W8 = W7.alloc (.cells #[.slice (some ⟨W6.heap.size, 0, none⟩) m m] 207) := ⟨_, rfl⟩
  rw [← hW8]
  have BW78 : Below W7.heap.size W7 W8 := by rw [hW8]; exact (Below.refl _ _).alloc (Nat.le_refl _) _
  have BW58 : Below W5.heap.size W5 W8 := HBW67.out.trans (BW78.mono (by omega))
  have AI8 := Lib.hid (show At W8 W7.heap.size 207 #[.slice (some ⟨W6.heap.size, 0, none⟩) m m] from by rw [hW8]; exact At.new W7 207 _)
  have AD8 := Lib.hid (HAD7.out.below BW78 (by omega))
  have AC8 := Lib.hid (HAC7.out.below BW78 (by omega))
  have HG8 := Lib.hid (HG5.out.below BW58)
  have HI8 := Lib.hid (HI5.out.below BW58 (by omega))
  have HA8 := Lib.hid (HA5.out.below BW58 (by omega))
  have AN8 := Lib.hid (AN5.out.below BW58 (by omega))
  have KW8 := Lib.hid (KW5.out.trans (KQ.below BW58))
  have BW8 := Lib.hid (BW5.out.trans (belMono BW58 (by omega)))
  have z8 : W7.heap.size < W8.heap.size := by rw [hW8]; simp
  clear hW8 BW78 BW58 HBW67 HAD7 HAC7 HG5 HI5 HA5 AN5 KW5 BW5 hmk1 hmk2
  go_at_call 23
  refine (AI.addRec B pb n xs none path st' rl 0 0 1 W8 HG8.out.bp (by omega) (by omega) HG8.out.recs).mono ?_
  rintro e W9 ⟨rfl, hpr9, hkp9, hbl9, hsb9⟩
  have z9 := hbl9.size
  have STB := Lib.hid (show SBt B pb sb mi mn ms m np c3 c4 (n + 1) L zs a3 a4 pcs o1 o2 (xs ++ recOf path st' rl 0 0) (ns + 1) (ys ++ NS.symOf NM 27) (ng + 1) (gs ++ [.int .u32 0, .int .u32 (ns : Int)]) Li Ln st' rl ns W3.heap.size W5.heap.size W6.heap.size W7.heap.size w W9 from
    have kq := kqRec (sb := sb) (mi := mi) (mn := mn) hkp9 hbl9.size
    ⟨HG8.out.newRec hpr9 hkp9 hsb9, HI8.out.keep kq hbl9, hkp9.at HA8.out (by omega) (by decide), hkp9.at AN8.out (by omega) (by decide), ⟨_, hkp9.at AD8.out (by omega) (by decide), by simp [size_madeCells, Value.cells]⟩, ⟨_, hkp9.at AC8.out (by omega) (by decide), by simp [size_madeCells, Value.cells]⟩, hkp9.at AI8.out (by omega) (by decide), KW8.out.trans kq, BW8.out.trans hbl9, by omega⟩)
  clear hpr9 hkp9 hbl9 hsb9 AI8 AD8 AC8 HG8 HI8 HA8 AN8 KW8 BW8 p0 p1 p2
  obtain ⟨nb, hnb⟩ : ∃ k, k = W3.heap.size := ⟨_, rfl⟩
  obtain ⟨db, hdb⟩ : ∃ k, k = W5.heap.size := ⟨_, rfl⟩
  obtain ⟨cb, hcb⟩ : ∃ k, k = W6.heap.size := ⟨_, rfl⟩
  obtain ⟨ib, hib⟩ : ∃ k, k = W7.heap.size := ⟨_, rfl⟩
  rw [← hnb, ← hdb, ← hcb, ← hib] at STB
  rw [← hnb, ← hdb, ← hib]
  have zb1 : w.heap.size < nb ∧ nb < W9.heap.size := by omega
  have zb2 : w.heap.size < db ∧ db < W9.heap.size := by omega
  have zb3 : w.heap.size < cb ∧ cb < W9.heap.size := by omega
  have zb4 : w.heap.size < ib ∧ ib < W9.heap.size := by omega
  clear hnb hdb hcb hib z0 z1 z2 z3 z4 z5 z6 z7 z8 z9 q0 q1 B0 A0
  go_upto_if 83 with (fail)
  go_cut [6] from 82 to 94 (fun _ wx => SBt B pb sb mi mn ms m np c3 c4 (n + 1) L zs a3 a4 pcs o1 o2 (xs ++ recOf path st' rl (ix o1) 0) (ns + 1) (ys ++ NS.symOf NM 27) (ng + 1) (gs ++ [.int .u32 0, .int .u32 (ns : Int)]) Li Ln st' rl ns nb db cb ib w wx)
  case first =>
    rcases ho : o1 with _ | ⟨sk, sv⟩
    · have hix : ix o1 = 0 := by rw [ho]; rfl
      go_wp2_with fail
      go_meet
      rw [hix]
      exact STB.out
    · obtain ⟨g, c, x1, x2, x3, x4, x5, x6, x7, x9, x8⟩ := recStep STB.out.gs
      have hsk := STB.out.inn.p1 _ ho
      have kn : sk ≠ g := by
        obtain ⟨_, _, hc, _, ho', _⟩ := STB.out.gs.recs
        rw [x1] at hc
        simp only [Option.some.injEq, Value.slice.injEq] at hc
        obtain ⟨rfl, _, rfl⟩ := hc
        exact fun e => ownNe ho' hsk.1 (by decide) (by rw [e]; rfl)
      have y1 : W9.cell? ⟨sk, 0, none⟩ = some (.int .u32 sv) := by rw [hsk.1.cell]; rfl
      have y2 : W9.cell? ⟨g, n * 15 + 10, none⟩ = some (.int .u32 0) := by rw [x3 _ (by omega)]; exact recAt1 HXL.out path st' rl _ _
      have y3 := x5 (n * 15 + 10)
      have y4 : (0 : Int) ≤ (n : Int) := Int.natCast_nonneg _
      have y5 : (n : Int) < (n : Int) + 1 := by omega
      have y6 := hsk.1.lt
      have y7 : pb < W9.heap.size := World.block_lt_of_cell? _ _ x1
      have y8 : ¬ g = sk := Ne.symm kn
      have END := x8 (n * 15 + 10) (.int .u32 (cx sv))
      rw [recSet1 HXL.out] at END
      have FIN := Lib.hid (fun o => STB.out.step (i := n * 15 + 10) (u := .int .u32 (cx sv)) x9 END.1 END.2.1 END.2.2 o)
      have hix := Lib.hid (show ix o1 = cx sv from by rw [ho]; rfl)
      clear x3 x4 x5 x8 hsk x9 END
      go_wp2_with fail
      go_region_held3 (fun w' => w'.cell? ⟨pb, 169, none⟩ = some (.slice (some ⟨g, 0, none⟩) (n + 1) c) ∧ w'.cell? ⟨sk, 0, none⟩ = some (.int .u32 sv)) (repeat' (first | (refine And.intro ?_ ?_) | with_reducible assumption | apply kAlloc | apply kDrew | (refine kSet ?_ (by omega)))) (first | (go_at_call 24; (with_reducible refine Calls.mono (mkIdx _ _) ?_); rintro e w' ⟨rfl, rfl⟩) | fail)
      all_goals
        go_wp2_with fail
        go_meet
        rw [hix.out]
        exact FIN.out _
  case rest =>
  rename World => WX
  clear STB zb1 zb2 zb3 zb4
  have STB := Lib.hid hcut
  clear hcut
  have zb1 : w.heap.size < nb ∧ nb < WX.heap.size := ⟨STB.out.ge.1, STB.out.an.lt⟩
  have zb2 : w.heap.size < db ∧ db < WX.heap.size := ⟨STB.out.ge.2.1, by obtain ⟨D, h, _⟩ := STB.out.ad; exact h.lt⟩
  have zb3 : w.heap.size < cb ∧ cb < WX.heap.size := ⟨STB.out.ge.2.2.1, by obtain ⟨D, h, _⟩ := STB.out.ac; exact h.lt⟩
  have zb4 : w.heap.size < ib ∧ ib < WX.heap.size := ⟨STB.out.ge.2.2.2, STB.out.ai.lt⟩
  go_upto_if 96 with (fail)
  go_cut [7] from 95 to 107 (fun _ wx => SBt B pb sb mi mn ms m np c3 c4 (n + 1) L zs a3 a4 pcs o1 o2 (xs ++ recOf path st' rl (ix o1) (ix o2)) (ns + 1) (ys ++ NS.symOf NM 27) (ng + 1) (gs ++ [.int .u32 0, .int .u32 (ns : Int)]) Li Ln st' rl ns nb db cb ib w wx)
  case first =>
    rcases ho : o2 with _ | ⟨sk, sv⟩
    · have hix : ix o2 = 0 := by rw [ho]; rfl
      go_wp2_with fail
      go_meet
      rw [hix]
      exact STB.out
    · obtain ⟨g, c, x1, x2, x3, x4, x5, x6, x7, x9, x8⟩ := recStep STB.out.gs
      have hsk := STB.out.inn.p2 _ ho
      have kn : sk ≠ g := by
        obtain ⟨_, _, hc, _, ho', _⟩ := STB.out.gs.recs
        rw [x1] at hc
        simp only [Option.some.injEq, Value.slice.injEq] at hc
        obtain ⟨rfl, _, rfl⟩ := hc
        exact fun e => ownNe ho' hsk.1 (by decide) (by rw [e]; rfl)
      have y1 : WX.cell? ⟨sk, 0, none⟩ = some (.int .u32 sv) := by rw [hsk.1.cell]; rfl
      have y2 : WX.cell? ⟨g, n * 15 + 11, none⟩ = some (.int .u32 0) := by rw [x3 _ (by omega)]; exact recAt2 HXL.out path st' rl _ _
      have y3 := x5 (n * 15 + 11)
      have y4 : (0 : Int) ≤ (n : Int) := Int.natCast_nonneg _
      have y5 : (n : Int) < (n : Int) + 1 := by omega
      have y6 := hsk.1.lt
      have y7 : pb < WX.heap.size := World.block_lt_of_cell? _ _ x1
      have y8 : ¬ g = sk := Ne.symm kn
      have END := x8 (n * 15 + 11) (.int .u32 (cx sv))
      rw [recSet2 HXL.out] at END
      have FIN := Lib.hid (fun o => STB.out.step (i := n * 15 + 11) (u := .int .u32 (cx sv)) x9 END.1 END.2.1 END.2.2 o)
      have hix := Lib.hid (show ix o2 = cx sv from by rw [ho]; rfl)
      clear x3 x4 x5 x8 hsk x9 END
      go_wp2_with fail
      go_region_held3 (fun w' => w'.cell? ⟨pb, 169, none⟩ = some (.slice (some ⟨g, 0, none⟩) (n + 1) c) ∧ w'.cell? ⟨sk, 0, none⟩ = some (.int .u32 sv)) (repeat' (first | (refine And.intro ?_ ?_) | with_reducible assumption | apply kAlloc | apply kDrew | (refine kSet ?_ (by omega)))) (first | (go_at_call 24; (with_reducible refine Calls.mono (mkIdx _ _) ?_); rintro e w' ⟨rfl, rfl⟩) | fail)
      all_goals
        go_wp2_with fail
        go_meet
        rw [hix.out]
        exact FIN.out _
  case rest =>
  rename World => WY
  clear STB zb1 zb2 zb3 zb4
  have STB := Lib.hid hcut
  clear hcut
  have zb1 : w.heap.size < nb ∧ nb < WY.heap.size := ⟨STB.out.ge.1, STB.out.an.lt⟩
  have zb2 : w.heap.size < db ∧ db < WY.heap.size := ⟨STB.out.ge.2.1, by obtain ⟨D, h, _⟩ := STB.out.ad; exact h.lt⟩
  have zb3 : w.heap.size < cb ∧ cb < WY.heap.size := ⟨STB.out.ge.2.2.1, by obtain ⟨D, h, _⟩ := STB.out.ac; exact h.lt⟩
  have zb4 : w.heap.size < ib ∧ ib < WY.heap.size := ⟨STB.out.ge.2.2.2, STB.out.ai.lt⟩
  obtain ⟨D0, hD0, hDs0⟩ := STB.out.ad
  have hd0 : WY.cell? ⟨db, 0, none⟩ = some D0[0] := by rw [hD0.cell, Array.getElem?_eq_getElem (by omega)]
  have hd1 : WY.cell? ⟨db, 1, none⟩ = some D0[1] := by rw [hD0.cell, Array.getElem?_eq_getElem (by omega)]
  have hd2 : WY.cell? ⟨db, 2, none⟩ = some D0[2] := by rw [hD0.cell, Array.getElem?_eq_getElem (by omega)]
  have hf0 := hD0.frozen 0
  have hf1 := hD0.frozen 1
  have hf2 := hD0.frozen 2
  have hn0 : WY.cell? ⟨nb, 0, none⟩ = some (.int .u32 0) := by rw [STB.out.an.cell]; rfl
  have hn1 : WY.cell? ⟨nb, 1, none⟩ = some (.int .u32 (ns : Int)) := by rw [STB.out.an.cell]; rfl
  have hnd : nb ≠ db := atNe STB.out.an hD0 (by decide)
  have HL0 := Lib.hid (show LSt B pb sb mi mn ms m np c3 c4 (n + 1) L zs a3 a4 pcs o1 o2 (xs ++ recOf path st' rl (ix o1) (ix o2)) (ns + 1) (ys ++ NS.symOf NM 27) (ng + 1) (gs ++ [.int .u32 0, .int .u32 (ns : Int)]) Li Ln st' rl ns n nb db cb ib w 0 (((WY.setCell ⟨db, 0, none⟩ (.int .u32 0)).setCell ⟨db, 1, none⟩ (.int .u32 (ns : Int))).setCell ⟨db, 2, none⟩ (.bool true)) from
    ⟨STB.out.decl ⟨lpb, lsb, hz⟩ hD0 hDs0 _ _ _ 0, _, ((hD0.set 0 _).set 1 _).set 2 _, by simp [hDs0], dok0 hDs0⟩)
  clear hD0 zb1 zb2 zb3 zb4
  go_wp2_with fail
  go_loopw [114] (fun s114 wr => ∃ i : Nat, s114 = .int .i64 i ∧ i ≤ m ∧ LSt B pb sb mi mn ms m np c3 c4 (n + 1) L zs a3 a4 pcs o1 o2 (xs ++ recOf path st' rl (ix o1) (ix o2)) (ns + 1) (ys ++ NS.symOf NM 27) (ng + 1) (gs ++ [.int .u32 0, .int .u32 (ns : Int)]) Li Ln st' rl ns n nb db cb ib w i wr) (fun s _ => m - (intOf s).toNat)
  case atStart => exact ⟨0, rfl, Nat.zero_le _, HL0.out⟩
  case round =>
    rename World => wr
    obtain ⟨i, rfl, him, hst⟩ := hrel
    by_cases hlt : i < m
    · obtain ⟨hS, D, hD, hDs, hOK⟩ := hst
      have HS := Lib.hid hS
      rcases hS.inn.rs with h0 | ⟨xb, cx3, rfl, hxa, hxn, hxc, hxs⟩
      · omega
      obtain ⟨zz, hzz⟩ : ∃ zz : ByteArray, zz = zs.getD i ByteArray.empty := ⟨_, rfl⟩
      have x1 : wr.cell? ⟨xb, i, none⟩ = some (.string zz) := by rw [hxa.cell, hzz]; exact hxs i hlt
      obtain ⟨l, s, j, hv⟩ : LV (lk L zz) := lk_LV HLV.out zz
      have hlook : (Instr.lookup 29 (.map (some ms)) (.string zz) false).run Tryd.prog wr = .ok (.agg #[.int .i32 l, .int .u32 s, .int .u32 j]) wr := by
        have h := look_ms hS.inn.mp zz false
        rw [show (IM.look L zz).getD (Value.agg #[.int .i32 0, .int .u32 0, .int .u32 0]) = lk L zz from rfl, hv] at h
        exact h
      obtain ⟨C, hC, hCs⟩ := hS.ac
      have k0 : i * 6 + 5 < C.size := by omega
      obtain ⟨vc0, c0⟩ := atSome hC (k := i * 6) (by omega)
      obtain ⟨vc1, c1⟩ := atSome hC (k := i * 6 + 1) (by omega)
      obtain ⟨vc2, c2⟩ := atSome hC (k := i * 6 + 2) (by omega)
      obtain ⟨vc3x, c3'⟩ := atSome hC (k := i * 6 + 3) (by omega)
      obtain ⟨vc4x, c4'⟩ := atSome hC (k := i * 6 + 4) (by omega)
      obtain ⟨vc5, c5⟩ := atSome hC (k := i * 6 + 5) (by omega)
      have f0 := hC.frozen (i * 6)
      have f1 := hC.frozen (i * 6 + 1)
      have f2 := hC.frozen (i * 6 + 2)
      have f3 := hC.frozen (i * 6 + 3)
      have f4 := hC.frozen (i * 6 + 4)
      have f5 := hC.frozen (i * 6 + 5)
      obtain ⟨vd0, d0⟩ := atSome hD (k := (i + 1) * 3) (by omega)
      obtain ⟨vd1, d1⟩ := atSome hD (k := (i + 1) * 3 + 1) (by omega)
      obtain ⟨vd2, d2⟩ := atSome hD (k := (i + 1) * 3 + 2) (by omega)
      have g0 := hD.frozen ((i + 1) * 3)
      have g1 := hD.frozen ((i + 1) * 3 + 1)
      have g2 := hD.frozen ((i + 1) * 3 + 2)
      have i0 : wr.cell? ⟨ib, 0, none⟩ = some (.slice (some ⟨cb, 0, none⟩) m m) := by rw [hS.ai.cell]; rfl
      have n1 : ib ≠ db := atNe hS.ai hD (by decide)
      have n2 : ib ≠ cb := atNe hS.ai hC (by decide)
      have n3 : db ≠ cb := atNe hD hC (by decide)
      have n4 : cb ≠ db := Ne.symm n3
      have b1 := hD.lt
      have b2 := hC.lt
      have b3 := hS.ai.lt
      have b4 := hxa.lt
      have HD := Lib.hid hD
      have HDs := Lib.hid hDs
      have HC := Lib.hid hC
      have HCs := Lib.hid hCs
      have HOK := Lib.hid hOK
      have HV := Lib.hid hv
      have HZ := Lib.hid hzz
      have hi0 : (0 : Int) ≤ (i : Int) := Int.natCast_nonneg _
      have hi1 : (i : Int) < (m : Int) := by omega
      have hi2 : (m : Int) ≤ 65536 := by omega
      clear hS hxa hxn hxs hD hDs hC hCs hOK hv hzz hd0 hd1 hd2 hf0 hf1 hf2 hn0 hn1
      go_wp2_with fail
      obtain ⟨Wd, hWd⟩ : ∃ W, W = ((wr.setCell ⟨db, (i + 1) * 3, none⟩ (.int .u32 s)).setCell ⟨db, (i + 1) * 3 + 1, none⟩ (.int .u32 j)).setCell ⟨db, (i + 1) * 3 + 2, none⟩ (.bool true) := ⟨_, rfl⟩
      obtain ⟨Wc, hWc⟩ : ∃ W, W = (((((Wd.setCell ⟨cb, i * 6, none⟩ (.string zz)).setCell ⟨cb, i * 6 + 1, none⟩ (.string ⟨#[]⟩)).setCell ⟨cb, i * 6 + 2, none⟩ (.int .i32 l)).setCell ⟨cb, i * 6 + 3, none⟩ (.int .i32 l)).setCell ⟨cb, i * 6 + 4, none⟩ (.int .u32 s)).setCell ⟨cb, i * 6 + 5, none⟩ (.int .u32 j) := ⟨_, rfl⟩
      have zd : Wd.heap.size = wr.heap.size := by rw [hWd]; simp [World.setCell]
      have zc : Wc.heap.size = wr.heap.size := by rw [hWc]; simp [World.setCell, zd]
      have kd : ∀ k, k ≠ db → Wd.heap[k]? = wr.heap[k]? := fun k hk => by rw [hWd, Below.heap_setCell _ _ _ k (by simpa using hk), Below.heap_setCell _ _ _ k (by simpa using hk), Below.heap_setCell _ _ _ k (by simpa using hk)]
      have kc : ∀ k, k ≠ cb → Wc.heap[k]? = Wd.heap[k]? := fun k hk => by rw [hWc, Below.heap_setCell _ _ _ k (by simpa using hk), Below.heap_setCell _ _ _ k (by simpa using hk), Below.heap_setCell _ _ _ k (by simpa using hk), Below.heap_setCell _ _ _ k (by simpa using hk), Below.heap_setCell _ _ _ k (by simpa using hk), Below.heap_setCell _ _ _ k (by simpa using hk)]
      have aDd : At Wd db 57 (((D.setIfInBounds ((i + 1) * 3) (.int .u32 s)).setIfInBounds ((i + 1) * 3 + 1) (.int .u32 j)).setIfInBounds ((i + 1) * 3 + 2) (.bool true)) := by rw [hWd]; exact ((HD.out.set _ _).set _ _).set _ _
      have aCd : At Wd cb 211 C := (kd cb n4).trans HC.out
      have aCc : ∃ C', At Wc cb 211 C' ∧ C'.size = m * 6 := ⟨_, by rw [hWc]; exact (((((aCd.set _ _).set _ _).set _ _).set _ _).set _ _).set _ _, by simpa using HCs.out⟩
      have bU : ∀ B0 (W0 : World), Below B0 W0 wr → B0 ≤ db → B0 ≤ cb → Below B0 W0 Wc := fun B0 W0 h h1 h2 => by
        rw [hWc, hWd]
        exact ((((((((h.setCell (by simpa using h1) _).setCell (by simpa using h1) _).setCell (by simpa using h1) _).setCell (by simpa using h2) _).setCell (by simpa using h2) _).setCell (by simpa using h2) _).setCell (by simpa using h2) _).setCell (by simpa using h2) _).setCell (by simpa using h2) _
      obtain ⟨U, hU⟩ : ∃ U, U = Wc.alloc (.cells #[.int .i32 l, .int .u32 s, .int .u32 j] 36) := ⟨_, rfl⟩
      have zU : wr.heap.size < U.heap.size := by rw [hU]; simp; omega
      have kU : ∀ k, k < wr.heap.size → k ≠ db → k ≠ cb → U.heap[k]? = wr.heap[k]? := fun k hk h1 h2 => by rw [hU, Below.heap_alloc _ _ k (by omega), kc k h2, kd k h1]
      have aDU : At U db 57 (((D.setIfInBounds ((i + 1) * 3) (.int .u32 s)).setIfInBounds ((i + 1) * 3 + 1) (.int .u32 j)).setIfInBounds ((i + 1) * 3 + 2) (.bool true)) := by rw [hU]; exact (show At Wc db 57 _ from (kc db n3).trans aDd).alloc _
      have aCU : ∃ C', At U cb 211 C' ∧ C'.size = m * 6 := by obtain ⟨C', h1, h2⟩ := aCc; exact ⟨C', by rw [hU]; exact h1.alloc _, h2⟩
      have aNU : At U wr.heap.size 36 #[.int .i32 l, .int .u32 s, .int .u32 j] := by
        have := At.new Wc 36 #[.int .i32 l, .int .u32 s, .int .u32 j]
        rw [zc] at this
        rw [hU]; exact this
      have hge := HS.out.ge
      have bUB : Below B wr U := by rw [hU]; exact (bU B wr (Below.refl _ _) (by omega) (by omega)).alloc (by omega) _
      rw [hWd] at hWc
      rw [hWc] at hU
      rw [← hU]
      clear hU hWd hWc kd kc aDd aCd aCc bU zd zc
      have HSU := Lib.hid (HS.out.keep (W' := U) ⟨lpb, lsb, hz⟩ (HS.out.gs.mpi.of_block (kU mi HS.out.gs.mpi.lt (by omega) (by omega))) (HS.out.gs.mpn.of_block (kU mn HS.out.gs.mpn.lt (by omega) (by omega))) ⟨by omega, fun k hk _ hT => kU k hk (fun e => hT D 57 (0, 0) (by simp) (by subst e; exact HD.out)) (fun e => hT C 211 (0, 0) (by simp) (by subst e; exact HC.out))⟩ (fun k hk _ _ => kU k (by omega) (by omega) (by omega)) bUB ⟨_, aDU, by simpa using HDs.out⟩ aCU)
      have HDU := Lib.hid aDU
      have HNU := Lib.hid aNU
      clear aDU aCU bUB kU
      clear x1 hlook vc0 c0 vc1 c1 vc2 c2 vc3x c3' vc4x c4' vc5 c5 f0 f1 f2 f3 f4 f5 vd0 d0 vd1 d1 vd2 d2 g0 g1 g2 i0
      obtain ⟨o1', hu1, hm1⟩ := upd_mb (show MP mkR U.drew mi (fLi L zs Li i) from HSU.out.gs.mpi) (s, j) (.bool true)
      obtain ⟨U2, hU2⟩ : ∃ V, V = mput U.drew mi o1' := ⟨_, rfl⟩
      rw [← hU2] at hu1 hm1
      have hu1 : (Instr.mapUpdate 164 (.map (some mi)) (.agg #[.int .u32 s, .int .u32 j]) (.bool true)).run Tryd.prog U.drew = .ok () U2 := hu1
      have lmi' : mi < U.heap.size := HSU.out.gs.mpi.lt
      have K2 : ∀ k, k ≠ mi → U2.heap[k]? = U.heap[k]? := fun k hk => by rw [hU2]; exact mput_other U.drew mi o1' k hk
      have zU2 : U2.heap.size = U.heap.size := by rw [hU2]; exact mput_size U.drew mi o1'
      have bU2 : Below B U U2 := by rw [hU2]; exact mput_below ((Below.refl _ _).drew) mi o1' HSU.out.gs.bi
      have e1 := HSU.out.gs.c172
      have e2 : U.cell? ⟨wr.heap.size, 1, none⟩ = some (.int .u32 s) := by rw [HNU.out.cell]; rfl
      have e3 : U.cell? ⟨wr.heap.size, 2, none⟩ = some (.int .u32 j) := by rw [HNU.out.cell]; rfl
      have lpU : pb < U.heap.size := World.block_lt_of_cell? _ _ e1
      obtain ⟨D2, aD2, sD2⟩ := HSU.out.ad
      have HSU2 := Lib.hid (HSU.out.keep (W' := U2) ⟨lpb, lsb, hz⟩ hm1 (HSU.out.gs.mpn.of_block (K2 mn (Ne.symm HSU.out.gs.ine))) ⟨by omega, fun k hk hM _ => K2 k (fun e => hM (by simp [e]))⟩ (fun k _ h1 _ => K2 k h1) bU2 ⟨D2, (K2 db (mapNe aD2 HSU.out.gs.mpi)).trans aD2, sD2⟩ (by obtain ⟨C2, aC2, sC2⟩ := HSU.out.ac; exact ⟨C2, (K2 cb (mapNe aC2 HSU.out.gs.mpi)).trans aC2, sC2⟩))
      have HNU2 := Lib.hid (show At U2 wr.heap.size 36 #[.int .i32 l, .int .u32 s, .int .u32 j] from (K2 _ (mapNe HNU.out HSU.out.gs.mpi)).trans HNU.out)
      have HDU2 := Lib.hid (show At U2 db 57 _ from (K2 db (mapNe HDU.out HSU.out.gs.mpi)).trans HDU.out)
      clear hU2 hm1 K2 bU2 aD2 sD2
      go_region
      clear hu1 e1 e2 e3 HSU HDU HNU
      obtain ⟨o2', hu2, hm2⟩ := upd_mn (show MP mkR U2.drew mn (fLn L zs ns n Ln i) from HSU2.out.gs.mpn) (s, j) (.agg #[.string zz, .slice none 0 0, .int .i32 l, .int .u32 0, .int .u32 (ns : Int), .int .u32 (n : Int), .bool false, .bool false])
      obtain ⟨U3, hU3⟩ : ∃ V, V = mput U2.drew mn o2' := ⟨_, rfl⟩
      rw [← hU3] at hu2 hm2
      have hu2 : (Instr.mapUpdate 168 (.map (some mn)) (.agg #[.int .u32 s, .int .u32 j]) (.agg #[.string zz, .slice none 0 0, .int .i32 l, .int .u32 0, .int .u32 (ns : Int), .int .u32 (n : Int), .bool false, .bool false])).run Tryd.prog U2.drew = .ok () U3 := hu2
      have K3 : ∀ k, k ≠ mn → U3.heap[k]? = U2.heap[k]? := fun k hk => by rw [hU3]; exact mput_other U2.drew mn o2' k hk
      have zU3 : U3.heap.size = U2.heap.size := by rw [hU3]; exact mput_size U2.drew mn o2'
      have bU3 : Below B U2 U3 := by rw [hU3]; exact mput_below ((Below.refl _ _).drew) mn o2' HSU2.out.gs.bn
      have e1 := HSU2.out.gs.c173
      have e2 : U2.cell? ⟨wr.heap.size, 1, none⟩ = some (.int .u32 s) := by rw [HNU2.out.cell]; rfl
      have e3 : U2.cell? ⟨wr.heap.size, 2, none⟩ = some (.int .u32 j) := by rw [HNU2.out.cell]; rfl
      have e4 : U2.cell? ⟨wr.heap.size, 0, none⟩ = some (.int .i32 l) := by rw [HNU2.out.cell]; rfl
      have e5 : U2.cell? ⟨nb, 0, none⟩ = some (.int .u32 0) := by rw [HSU2.out.an.cell]; rfl
      have e6 : U2.cell? ⟨nb, 1, none⟩ = some (.int .u32 (ns : Int)) := by rw [HSU2.out.an.cell]; rfl
      obtain ⟨D2, aD2, sD2⟩ := HSU2.out.ad
      have hrz : refOf (lk L zz) = (s, j) := by rw [HV.out]; rfl
      have hlz : locOf (lk L zz) = l := by rw [HV.out]; rfl
      have hzs := HZ.out
      have hm1' : MP mkR U3 mi (fLi L zs Li (i + 1)) := by
        have h := HSU2.out.gs.mpi.of_block (K3 mi HSU2.out.gs.ine)
        show MP mkR U3 mi (upd (fLi L zs Li i) (refOf (lk L (zs.getD i ByteArray.empty))) (.bool true))
        rw [← hzs, hrz]
        exact h
      have hm2' : MP mkR U3 mn (fLn L zs ns n Ln (i + 1)) := by
        show MP mkR U3 mn (upd (fLn L zs ns n Ln i) (refOf (lk L (zs.getD i ByteArray.empty))) (niOf L (zs.getD i ByteArray.empty) ns n))
        rw [← hzs, hrz, niOf, hlz]
        exact hm2
      have HFIN := Lib.hid (show LSt B pb sb mi mn ms m np c3 c4 (n + 1) L zs (some ⟨xb, 0, none⟩) a4 pcs o1 o2 (xs ++ recOf path st' rl (ix o1) (ix o2)) (ns + 1) (ys ++ NS.symOf NM 27) (ng + 1) (gs ++ [.int .u32 0, .int .u32 (ns : Int)]) Li Ln st' rl ns n nb db cb ib w (i + 1) U3 from
        ⟨HSU2.out.keep (W' := U3) ⟨lpb, lsb, hz⟩ hm1' hm2' ⟨by omega, fun k hk hM _ => K3 k (fun e => hM (by simp [e]))⟩ (fun k _ _ h2 => K3 k h2) bU3 ⟨D2, (K3 db (mapNe aD2 HSU2.out.gs.mpn)).trans aD2, sD2⟩ (by obtain ⟨C2, aC2, sC2⟩ := HSU2.out.ac; exact ⟨C2, (K3 cb (mapNe aC2 HSU2.out.gs.mpn)).trans aC2, sC2⟩),
          _, (K3 db (mapNe HDU2.out HSU2.out.gs.mpn)).trans HDU2.out, by simpa using HDs.out, dokS HDs.out hlt HOK.out s j (by rw [← hzs]; exact hrz)⟩)
      have lnU : nb < U2.heap.size := World.block_lt_of_cell? _ _ e5
      have lwU : wr.heap.size < U2.heap.size := World.block_lt_of_cell? _ _ e2
      have lp2 : pb < U2.heap.size := World.block_lt_of_cell? _ _ e1
      clear hU3 hm2 K3 bU3 aD2 sD2 hm1' hm2' hrz hlz hzs HSU2 HNU2 HDU2
      go_wp2_with fail
      go_region
      clear hu2 e1 e2 e3 e4 e5 e6
      go_wp2_with fail
      go_roundw
      case rel => exact ⟨i + 1, by go_num, by omega, HFIN.out⟩
      case measure => simp [intOf]; omega
    · obtain rfl : m = i := by omega
      obtain ⟨hS, D, hD, hDs, hOK⟩ := hst
      obtain ⟨gg', cap', w1, hrun, hEND⟩ := endStep (n := n) hS hz hD hnp
      have q0 : wr.cell? ⟨w.heap.size, 0, none⟩ = some (.int .i32 st') := by rw [hS.a0.cell]; rfl
      have q1 : wr.cell? ⟨nb, 0, none⟩ = some (.int .u32 0) := by rw [hS.an.cell]; rfl
      have q2 : wr.cell? ⟨nb, 1, none⟩ = some (.int .u32 (ns : Int)) := by rw [hS.an.cell]; rfl
      have q3 := hS.a0.lt
      have q4 := hS.an.lt
      have HEND := Lib.hid hEND
      have HOK := Lib.hid hOK
      have HDS := Lib.hid hDs
      have hlt' : ¬ (m : Int) < (m : Int) := by omega
      clear hd0 hd1 hd2 hf0 hf1 hf2 hn0 hn1 hS hD hDs hOK hEND him hlt
      go_wp2_with fail
      go_ret2
      exact ⟨st', NM, D, _, _, _, _, _, _, rfl, HLOC.out, HDS.out, HOK.out, HEND.out⟩
end GI
end Go.Proofs.YtoblkmnhoiodcaaDoor
