/- Proved here: the contracts of callRuntime, of the two keepers of names, and of their wrappers. Conditions as stated. -/
import Derived.Test.YtlbkdflbhhbibaaDoorUNP
import Derived.Test.YtlbkdflbhhbibaaDoorUPC
import Derived.WalkKit
import Derived.WalkSpells
import Derived.WalkLawsBesides
import Derived.Lib.Hide
import Derived.Lib.SliceRun
import Derived.Deep.RegionWith
import Derived.OwnWalk
import Derived.Laws.OwnMore
import Derived.BigRegion
import Derived.Deep.RegionHeld3
namespace Go.Proofs.YtlbkdflbhhbibaaDoor
open Go.RowKit
set_option linter.unusedSimpArgs false
set_option linter.unusedVariables false

theorem P0.below {w w' : World} {B b m c : Nat} (h : P0 w B b m c) (hb : Below w.heap.size w w') : P0 w' B b m c := by
  obtain ⟨h1, h2, h3, h4, ⟨ps, h5⟩, h6, ⟨cs, h7, h8⟩⟩ := h
  exact ⟨h1, h2.below hb, h3.below hb, kept hb h4, ⟨ps, h5.below hb h5.lt⟩, (hb.block m (Array.getElem?_eq_some_iff.1 h6).1).trans h6, ⟨cs, h7.below hb h7.lt, h8⟩⟩
/-- importFromRuntime may be called from here on. -/
def IMPH (B b m : Nat) (l0 l : Int) (k : Nat) (W : World) : Prop := ∀ W', Below W.heap.size W W' → Calls Tryd.prog 27 #[.pointer (some ⟨b, 0, none⟩), .agg #[.int .i32 l], .string nmv] W' (IP B b m l0 l k W')
theorem IMPH.below {B b m : Nat} {l0 l : Int} {k : Nat} {W W' : World} (h : IMPH B b m l0 l k W) (hb : Below W.heap.size W W') : IMPH B b m l0 l k W' := fun V hV => h V (hb.trans (hV.mono hb.size))
theorem imph1 {B b m : Nat} {l0 l : Int} {k : Nat} {W : World} (hk : k ≤ 1000000) (hB : B ≤ W.heap.size) (h : P1 W B b m l0 k) : IMPH B b m l0 l k W := fun W' hb => imp1 B b m l0 l k W' hk (by have := hb.size; omega) (h.below hb)
theorem imph0 {B b m c : Nat} {l : Int} {W : World} (hB0 : 0 < B) (hB : B ≤ W.heap.size) (hg0 : W.cell? ⟨0, 0, none⟩ = some (.int .u32 4294967295)) (hg1 : W.cell? ⟨0, 1, none⟩ = some (.int .u32 4294967295)) (h : P0 W B b m c) : IMPH B b m l l 0 W :=
  fun W' hb => imp0 B b m c l W' hB0 (by have := hb.size; omega) (kept hb hg0) (kept hb hg1) (h.below hb)
def CP (B b m : Nat) (l0 l : Int) (k : Nat) (args : Value) (W : World) (e : Ending) (w' : World) : Prop :=
  ∃ e0 i, e = .returned (.agg #[.iface 45 (.pointer (some ⟨e0, 0, none⟩)), .int .i32 l]) ∧ At w' e0 52 #[.iface 199 (.pointer (some ⟨i, 0, none⟩)), .int .i32 l, args, .int .i32 0, .int .u8 0, .int .u8 0, .bool false, .bool false] ∧ At w' i 201 #[.int .u32 0, .int .u32 0, .bool false, .bool false, .bool false] ∧ P1 w' B b m l0 (k + 1) ∧ Kq W w' ∧ Below B W w' ∧ W.heap.size ≤ e0
set_option maxRecDepth 100000 in
set_option maxHeartbeats 8000000 in
theorem callR (B b m : Nat) (l0 l : Int) (k : Nat) (ar : Addr) (W : World) (hB : B ≤ W.heap.size) (hb : b < W.heap.size) (h : IMPH B b m l0 l k W) :
    Calls Tryd.prog 24 #[.pointer (some ⟨b, 0, none⟩), .agg #[.int .i32 l], .string nmv, .slice (some ar) 2 2] W (CP B b m l0 l k (.slice (some ar) 2 2) W) := by
  have HI := Lib.hid h
  clear h
  go_enter Tryd.func24, Tryd.ntmps24
  go_wp2_with fail
  obtain ⟨V, hV⟩ : ∃ V, V = (W.alloc (.cells #[.int .i32 l] 29)).alloc (.cells #[.nilIface, .int .i32 0] 39) := ⟨_, rfl⟩
  have hWV : Below W.heap.size W V := by rw [hV]; exact ((Below.refl _ _).alloc (Nat.le_refl _) _).alloc (by simp) _
  have A5 : At V W.heap.size 29 #[.int .i32 l] := by rw [hV]; exact (At.new W 29 _).alloc _
  have A8 : At V (W.heap.size + 1) 39 #[.nilIface, .int .i32 0] := by
    rw [hV]
    have := At.new (W.alloc (.cells #[.int .i32 l] 29)) 39 #[.nilIface, .int .i32 0]
    rwa [show (W.alloc (.cells #[.int .i32 l] 29)).heap.size = W.heap.size + 1 from by simp] at this
  rw [← hV]
  have HV := Lib.hid (HI.out.below hWV)
  have HBV := Lib.hid hWV
  have zV := hWV.size
  have x5 : V.cell? ⟨W.heap.size, 0, none⟩ = some (.int .i32 l) := by rw [A5.cell]; rfl
  have l5 := A5.lt
  have l8 := A8.lt
  have H5 := Lib.hid A5
  have H8 := Lib.hid A8
  clear hV hWV HI A5 A8
  unfold IMPH at HV
  go_region_held3 (fun w' => w'.cell? ⟨W.heap.size, 0, none⟩ = some (.int .i32 l)) (repeat' (first | with_reducible assumption | apply kAlloc | apply kDrew | (refine kSet ?_ (by omega)))) (first
    | (go_at_call 27; (with_reducible refine Calls.mono (HV.out _ ((Below.refl _ _).drew)) ?_); rintro e Y ⟨i, rfl, hAi, hp1, hkq, hbl⟩; have zY := hbl.size; simp at zY; have A5 : At Y W.heap.size 29 #[.int .i32 l] := (H5.out.kq (show Kq V Y from hkq) (by decide) (by decide) (by decide)); have A8 : At Y (W.heap.size + 1) 39 #[.nilIface, .int .i32 0] := (H8.out.kq (show Kq V Y from hkq) (by decide) (by decide) (by decide)); have y5 : Y.cell? ⟨W.heap.size, 0, none⟩ = some (.int .i32 l) := (by rw [A5.cell]; rfl); have y80 : Y.cell? ⟨W.heap.size + 1, 0, none⟩ = some .nilIface := (by rw [A8.cell]; rfl); have y81 : Y.cell? ⟨W.heap.size + 1, 1, none⟩ = some (.int .i32 0) := (by rw [A8.cell]; rfl); have f80 := A8.frozen 0; have f81 := A8.frozen 1; have m5 := A5.lt; have m8 := A8.lt)
    | fail)
  all_goals
    obtain ⟨Z, hZ⟩ : ∃ Z, Z = (Y.setCell ⟨W.heap.size + 1, 0, none⟩ (.iface 45 (.pointer (some ⟨Y.heap.size, 0, none⟩)))).setCell ⟨W.heap.size + 1, 1, none⟩ (.int .i32 l) := ⟨_, rfl⟩
    have hq0 : W.heap.size ≤ W.heap.size + 1 := by omega
    have KZ : Kq W Z := by rw [hZ]; exact (((Kq.of_below HBV.out).trans hkq).set hq0 0 _).set hq0 1 _
    have PZ : P1 Z B b m l0 (k + 1) := by rw [hZ]; exact (hp1.set A8 (by decide) (by omega) 0 _).set (A8.set 0 _) (by decide) (by omega) 1 _
    have BZ : Below B W Z := by rw [hZ]; exact ((((HBV.out.mono hB).drew.trans hbl)).setCell (by simp; omega) _).setCell (by simp; omega) _
    have AZ : At Z i 201 #[.int .u32 0, .int .u32 0, .bool false, .bool false, .bool false] := by
      rw [hZ]
      have ne : i ≠ W.heap.size + 1 := atNe2 hAi A8 (by decide)
      exact (hAi.far (by simpa using ne) _).far (by simpa using ne) _
    have zZ : Z.heap.size = Y.heap.size := by rw [hZ]; simp [World.setCell]
    have AE : At (Z.alloc (.cells #[.iface 199 (.pointer (some ⟨i, 0, none⟩)), .int .i32 l, .slice (some ar) 2 2, .int .i32 0, .int .u8 0, .int .u8 0, .bool false, .bool false] 52)) Y.heap.size 52 #[.iface 199 (.pointer (some ⟨i, 0, none⟩)), .int .i32 l, .slice (some ar) 2 2, .int .i32 0, .int .u8 0, .int .u8 0, .bool false, .bool false] := by
      have := At.new Z 52 #[.iface 199 (.pointer (some ⟨i, 0, none⟩)), .int .i32 l, .slice (some ar) 2 2, .int .i32 0, .int .u8 0, .int .u8 0, .bool false, .bool false]
      rwa [zZ] at this
    have END := Lib.hid (show CP B b m l0 l k (.slice (some ar) 2 2) W (.returned (.agg #[.iface 45 (.pointer (some ⟨Y.heap.size, 0, none⟩)), .int .i32 l])) (Z.alloc (.cells #[.iface 199 (.pointer (some ⟨i, 0, none⟩)), .int .i32 l, .slice (some ar) 2 2, .int .i32 0, .int .u8 0, .int .u8 0, .bool false, .bool false] 52)) from ⟨Y.heap.size, i, rfl, AE, AZ.alloc _, PZ.below ((Below.refl _ _).alloc (Nat.le_refl _) _), KZ.alloc _, BZ.alloc (by have := BZ.size; omega) _, by omega⟩)
    rw [hZ] at END
    have y80' : True := trivial
    clear KZ PZ BZ AZ AE zZ hZ
    go_wp2_with fail
    exact bodyPost_ret (v := .agg #[.iface 45 (.pointer (some ⟨Y.heap.size, 0, none⟩)), .int .i32 l]) (by simp [results, Tryd.results24, go_sem, *]) rfl END.out
theorem Own.kq {w w' : World} {B : Nat} {v : Value} {out : List Int} (h : Own w B v out) (hk : Kq w w') : Own w' B v out := by
  obtain ⟨hl, h | ⟨g, cap, cur, hv, h1, hg, h2⟩⟩ := h
  · exact ⟨hl, .inl h⟩
  · exact ⟨hl, .inr ⟨g, cap, cur, hv, h1, hk g cur 209 hg (by decide) (by decide) (by decide), h2⟩⟩
theorem undrew {V Y : World} (h : Below V.drew.heap.size V.drew Y) : Below V.heap.size V Y := ⟨h.os, h.tape, h.output, h.size, h.block⟩
def NCx (w : World) (e0 i r q D : Nat) (v : Value) (l l2 : Int) (d : Value) (s : ByteArray) (u : Bool) : Prop :=
  At w e0 52 #[.iface 199 (.pointer (some ⟨i, 0, none⟩)), .int .i32 l, .slice (some ⟨r, 0, none⟩) 2 2, .int .i32 0, .int .u8 0, .int .u8 0, .bool false, .bool u] ∧ At w i 201 #[.int .u32 0, .int .u32 0, .bool false, .bool false, .bool false] ∧ At w r 39 #[d, .int .i32 l2, .iface 205 (.pointer (some ⟨q, 0, none⟩)), .int .i32 l] ∧ At w q 208 #[v, .int .i32 0, .bool false, .bool false, .bool false] ∧ Own w D v (rest s 0)
/-- The call that names d by s. -/
def NC (w : World) (e0 : Nat) (l l2 : Int) (d : Value) (s : ByteArray) (u : Bool) : Prop := ∃ i r q D v, NCx w e0 i r q D v l l2 d s u
theorem NC.kq {w w' : World} {e0 : Nat} {l l2 : Int} {d : Value} {s : ByteArray} {u : Bool} (h : NC w e0 l l2 d s u) (hk : Kq w w') : NC w' e0 l l2 d s u := by
  obtain ⟨i, r, q, D, v, h1, h2, h3, h4, h5⟩ := h
  exact ⟨i, r, q, D, v, h1.kq hk (by decide) (by decide) (by decide), h2.kq hk (by decide) (by decide) (by decide), h3.kq hk (by decide) (by decide) (by decide), h4.kq hk (by decide) (by decide) (by decide), h5.kq hk⟩
theorem NCx.set {w : World} {e0 i r q D : Nat} {v : Value} {l l2 : Int} {d : Value} {s : ByteArray} {u : Bool} (h : NCx w e0 i r q D v l l2 d s u) {x : Nat} {t : TypeId} {cs : Array Value} (hx : At w x t cs) (ht : t ≠ 52 ∧ t ≠ 201 ∧ t ≠ 208 ∧ t ≠ 209) (hr : r ≠ x) (j : Nat) (val : Value) : NCx (w.setCell ⟨x, j, none⟩ val) e0 i r q D v l l2 d s u := by
  obtain ⟨h1, h2, h3, h4, h5⟩ := h
  have n1 : e0 ≠ x := atNe2 h1 hx ht.1.symm
  have n2 : i ≠ x := atNe2 h2 hx ht.2.1.symm
  have n4 : q ≠ x := atNe2 h4 hx ht.2.2.1.symm
  refine ⟨h1.far (by simpa using n1) _, h2.far (by simpa using n2) _, h3.far (by simpa using hr) _, h4.far (by simpa using n4) _, ownSet h5 (fun e => ?_) _ _⟩
  obtain ⟨cs', hg⟩ := rowType h5 e
  exact atNe2 (show At w x 209 cs' from hg) hx ht.2.2.2.symm rfl
def KCP (B b m : Nat) (l0 l : Int) (k : Nat) (l2 : Int) (d : Value) (s : ByteArray) (W : World) (e : Ending) (w' : World) : Prop :=
  ∃ x e0, e = .returned (.agg #[.iface 40 (.pointer (some ⟨x, 0, none⟩)), .int .i32 l]) ∧ At w' x 44 #[.iface 45 (.pointer (some ⟨e0, 0, none⟩)), .int .i32 l, .bool true] ∧ NC w' e0 l l2 d s false ∧ P1 w' B b m l0 (k + 1) ∧ Kq W w' ∧ Below B W w'
set_option maxRecDepth 100000 in
set_option maxHeartbeats 8000000 in
theorem keepC (B b m : Nat) (l0 l l2 : Int) (k : Nat) (t : TypeId) (pd : Value) (s : ByteArray) (W : World) (hs : s.size ≤ 1048576) (hB : B ≤ W.heap.size) (hb : b < W.heap.size) (h : IMPH B b m l0 l k W) :
    Calls Tryd.prog 20 #[.pointer (some ⟨b, 0, none⟩), .agg #[.int .i32 l], .agg #[.iface t pd, .int .i32 l2], .string s] W (KCP B b m l0 l k l2 (.iface t pd) s W) := by
  have HI := Lib.hid h
  clear h
  go_enter Tryd.func20, Tryd.ntmps20
  go_wp2_with fail
  obtain ⟨V, hV⟩ : ∃ V, V = ((W.alloc (.cells #[.int .i32 l] 29)).alloc (.cells #[.iface t pd, .int .i32 l2] 39)).alloc (.cells #[.nilIface, .int .i32 0] 31) := ⟨_, rfl⟩
  have hWV : Below W.heap.size W V := by rw [hV]; exact (((Below.refl _ _).alloc (Nat.le_refl _) _).alloc (by simp) _).alloc (by simp; omega) _
  have A5 : At V W.heap.size 29 #[.int .i32 l] := by rw [hV]; exact ((At.new W 29 _).alloc _).alloc _
  have A6 : At V (W.heap.size + 1) 39 #[.iface t pd, .int .i32 l2] := by
    rw [hV]
    have := At.new (W.alloc (.cells #[.int .i32 l] 29)) 39 #[.iface t pd, .int .i32 l2]
    rw [show (W.alloc (.cells #[.int .i32 l] 29)).heap.size = W.heap.size + 1 from by simp] at this
    exact this.alloc _
  have A8 : At V (W.heap.size + 1 + 1) 31 #[.nilIface, .int .i32 0] := by
    rw [hV]
    have := At.new ((W.alloc (.cells #[.int .i32 l] 29)).alloc (.cells #[.iface t pd, .int .i32 l2] 39)) 31 #[.nilIface, .int .i32 0]
    rwa [show ((W.alloc (.cells #[.int .i32 l] 29)).alloc (.cells #[.iface t pd, .int .i32 l2] 39)).heap.size = W.heap.size + 1 + 1 from by simp] at this
  rw [← hV]
  have HV := HI.out.below hWV
  have HBV := Lib.hid hWV
  have zV := hWV.size
  have HC := Lib.hid (show ∀ (ar : Addr) (W' : World), Below V.heap.size V W' → Calls Tryd.prog 24 #[.pointer (some ⟨b, 0, none⟩), .agg #[.int .i32 l], .string ⟨#[95, 95, 110, 97, 109, 101]⟩, .slice (some ar) 2 2] W' (CP B b m l0 l k (.slice (some ar) 2 2) W') from fun ar W' hW' => callR B b m l0 l k ar W' (by have := hW'.size; omega) (by have := hW'.size; omega) (HV.below hW'))
  have x5 : V.cell? ⟨W.heap.size, 0, none⟩ = some (.int .i32 l) := by rw [A5.cell]; rfl
  have x6 : V.cell? ⟨W.heap.size + 1, 0, none⟩ = some (.iface t pd) := by rw [A6.cell]; rfl
  have x7 : V.cell? ⟨W.heap.size + 1, 1, none⟩ = some (.int .i32 l2) := by rw [A6.cell]; rfl
  have l5 := A5.lt
  have l6 := A6.lt
  have l8 := A8.lt
  have H5 := Lib.hid A5
  have H6 := Lib.hid A6
  have H8 := Lib.hid A8
  clear hV hWV HI A5 A6 A8 HV
  go_region_held3 (fun w' => w'.cell? ⟨W.heap.size, 0, none⟩ = some (.int .i32 l) ∧ w'.cell? ⟨W.heap.size + 1, 0, none⟩ = some (.iface t pd) ∧ w'.cell? ⟨W.heap.size + 1, 1, none⟩ = some (.int .i32 l2)) (repeat' (first | (refine And.intro ?_ ?_) | with_reducible assumption | apply kAlloc | apply kDrew | (refine kSet ?_ (by omega)))) (first
    | (go_at_call 25; (with_reducible refine Calls.mono (s16 s _ hs) ?_); rintro e Y ⟨v, rfl, hown, hbY⟩; obtain ⟨va, vc, rfl⟩ := hown.shape; have hbV := undrew hbY; have zY := hbV.size; have y5 := kept hbY x5; have y6 := kept hbY x6; have y7 := kept hbY x7)
    | (go_at_call 24; (with_reducible refine Calls.mono (HC.out _ _ ((hbV.alloc zY _).alloc (by simp; omega) _)) ?_); rintro e Z ⟨e0, i, rfl, hA0, hAi, hp1, hkq, hbl, hge⟩; have zZ := hbl.size; simp at zZ; have KZ : Kq V Z := ((((Kq.of_below hbV).alloc _).alloc _).trans hkq); have A5 : At Z W.heap.size 29 #[.int .i32 l] := (H5.out.kq KZ (by decide) (by decide) (by decide)); have A6 : At Z (W.heap.size + 1) 39 #[.iface t pd, .int .i32 l2] := (H6.out.kq KZ (by decide) (by decide) (by decide)); have A8 : At Z (W.heap.size + 1 + 1) 31 #[.nilIface, .int .i32 0] := (H8.out.kq KZ (by decide) (by decide) (by decide)); have z5 : Z.cell? ⟨W.heap.size, 0, none⟩ = some (.int .i32 l) := (by rw [A5.cell]; rfl); have z6 : Z.cell? ⟨W.heap.size + 1, 0, none⟩ = some (.iface t pd) := (by rw [A6.cell]; rfl); have z7 : Z.cell? ⟨W.heap.size + 1, 1, none⟩ = some (.int .i32 l2) := (by rw [A6.cell]; rfl); have z80 : Z.cell? ⟨W.heap.size + 1 + 1, 0, none⟩ = some .nilIface := (by rw [A8.cell]; rfl); have z81 : Z.cell? ⟨W.heap.size + 1 + 1, 1, none⟩ = some (.int .i32 0) := (by rw [A8.cell]; rfl); have f80 := A8.frozen 0; have f81 := A8.frozen 1; have m5 := A5.lt; have m6 := A6.lt; have m8 := A8.lt))
  all_goals
    have AR : At Z (Y.heap.size + 1) 39 #[.iface t pd, .int .i32 l2, .iface 205 (.pointer (some ⟨Y.heap.size, 0, none⟩)), .int .i32 l] := by
      have := At.new (Y.alloc (.cells #[.slice va (rest s 0).length vc, .int .i32 0, .bool false, .bool false, .bool false] 208)) 39 #[.iface t pd, .int .i32 l2, .iface 205 (.pointer (some ⟨Y.heap.size, 0, none⟩)), .int .i32 l]
      rw [show (Y.alloc (.cells #[.slice va (rest s 0).length vc, .int .i32 0, .bool false, .bool false, .bool false] 208)).heap.size = Y.heap.size + 1 from by simp] at this
      exact this.kq hkq (by decide) (by decide) (by decide)
    have AQ : At Z Y.heap.size 208 #[.slice va (rest s 0).length vc, .int .i32 0, .bool false, .bool false, .bool false] := ((At.new Y 208 _).alloc _).kq hkq (by decide) (by decide) (by decide)
    have OW := ((hown.alloc _).alloc _).kq hkq
    have NZ : NCx Z e0 i (Y.heap.size + 1) Y.heap.size _ (.slice va (rest s 0).length vc) l l2 (.iface t pd) s false := ⟨hA0, hAi, AR, AQ, OW⟩
    have KW : Kq W Z := (Kq.of_below HBV.out).trans KZ
    have BWZ : Below B W Z := (HBV.out.mono hB).trans (((hbV.mono (by omega)).alloc (by omega) _).alloc (by simp; omega) _ |>.trans hbl)
    have hq0 : W.heap.size ≤ W.heap.size + 1 + 1 := by omega
    have N1 := NZ.set A8 (by decide) (by omega) 0 (.iface 40 (.pointer (some ⟨Z.heap.size, 0, none⟩)))
    have N2 := N1.set (A8.set 0 _) (by decide) (by omega) 1 (.int .i32 l)
    have END := Lib.hid (show KCP B b m l0 l k l2 (.iface t pd) s W (.returned (.agg #[.iface 40 (.pointer (some ⟨Z.heap.size, 0, none⟩)), .int .i32 l])) (((Z.setCell ⟨W.heap.size + 1 + 1, 0, none⟩ (.iface 40 (.pointer (some ⟨Z.heap.size, 0, none⟩)))).setCell ⟨W.heap.size + 1 + 1, 1, none⟩ (.int .i32 l)).alloc (.cells #[.iface 45 (.pointer (some ⟨e0, 0, none⟩)), .int .i32 l, .bool true] 44)) from ⟨Z.heap.size, e0, rfl, by
      have := At.new ((Z.setCell ⟨W.heap.size + 1 + 1, 0, none⟩ (.iface 40 (.pointer (some ⟨Z.heap.size, 0, none⟩)))).setCell ⟨W.heap.size + 1 + 1, 1, none⟩ (.int .i32 l)) 44 #[.iface 45 (.pointer (some ⟨e0, 0, none⟩)), .int .i32 l, .bool true]
      simpa [World.setCell] using this, NC.kq ⟨_, _, _, _, _, N2⟩ ((Kq.refl _).alloc _), ((hp1.set A8 (by decide) (by omega) 0 _).set (A8.set 0 _) (by decide) (by omega) 1 _).below ((Below.refl _ _).alloc (Nat.le_refl _) _), ((KW.set hq0 0 _).set hq0 1 _).alloc _, ((BWZ.setCell (by simp; omega) _).setCell (by simp; omega) _).alloc (by simp [World.setCell]; omega) _⟩)
    clear AR AQ OW NZ KW BWZ N1 N2 hown hA0 hAi hp1 hkq hbl hge KZ A5 A6 A8 hbV hbY
    go_wp2_with fail
    exact bodyPost_ret (v := .agg #[.iface 40 (.pointer (some ⟨Z.heap.size, 0, none⟩)), .int .i32 l]) (by simp [results, Tryd.results20, go_sem, *]) rfl END.out
end Go.Proofs.YtlbkdflbhhbibaaDoor
