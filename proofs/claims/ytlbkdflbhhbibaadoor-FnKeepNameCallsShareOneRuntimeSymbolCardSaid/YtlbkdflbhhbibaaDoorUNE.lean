/- Proved here: the contract of keepExprSymbolName. Conditions as stated. -/
import Derived.Test.YtlbkdflbhhbibaaDoorUNK
import Derived.WalkKit
import Derived.WalkSpells
import Derived.WalkLawsBesides
import Derived.Lib.Hide
import Derived.Lib.SliceRun
import Derived.Deep.RegionWith
import Derived.OwnWalk
import Derived.Laws.OwnMore
import Derived.BigRegion
import Derived.Deep.RegionHeld3
namespace Go.Proofs.YtlbkdflbhhbibaaDoor
open Go.RowKit
set_option linter.unusedSimpArgs false
set_option linter.unusedVariables false

def KEP (B b m : Nat) (l0 l : Int) (k : Nat) (d : Value) (s : ByteArray) (W : World) (e : Ending) (w' : World) : Prop :=
  ∃ e0, e = .returned (.agg #[.iface 45 (.pointer (some ⟨e0, 0, none⟩)), .int .i32 l]) ∧ NC w' e0 l l d s true ∧ P1 w' B b m l0 (k + 1) ∧ Kq W w' ∧ Below B W w'
theorem keepE_end {B b m : Nat} {l0 l : Int} {k : Nat} {t : TypeId} {pd : Value} {s : ByteArray} {W V Y Z : World} {va : Option Addr} {vc D e0 i : Nat} (hB : B ≤ W.heap.size) (hb : b < W.heap.size) (HBV : Below W.heap.size W V) (hbV : Below V.heap.size V Y) (hown : Own Y D (.slice va (rest s 0).length vc) (rest s 0))
    (zV : W.heap.size + 1 < V.heap.size)
    (hA0 : At Z e0 52 #[.iface 199 (.pointer (some ⟨i, 0, none⟩)), .int .i32 l, .slice (some ⟨Y.heap.size + 1, 0, none⟩) 2 2, .int .i32 0, .int .u8 0, .int .u8 0, .bool false, .bool false]) (hAi : At Z i 201 #[.int .u32 0, .int .u32 0, .bool false, .bool false, .bool false]) (hp1 : P1 Z B b m l0 (k + 1))
    (hkq : Kq ((Y.alloc (.cells #[.slice va (rest s 0).length vc, .int .i32 0, .bool false, .bool false, .bool false] 208)).alloc (.cells #[.iface t pd, .int .i32 l, .iface 205 (.pointer (some ⟨Y.heap.size, 0, none⟩)), .int .i32 l] 39)) Z)
    (hbl : Below B ((Y.alloc (.cells #[.slice va (rest s 0).length vc, .int .i32 0, .bool false, .bool false, .bool false] 208)).alloc (.cells #[.iface t pd, .int .i32 l, .iface 205 (.pointer (some ⟨Y.heap.size, 0, none⟩)), .int .i32 l] 39)) Z)
    (hge : Y.heap.size ≤ e0) (A4 : At Z W.heap.size 39 #[.iface t pd, .int .i32 l]) (A6 : At Z (W.heap.size + 1) 39 #[.nilIface, .int .i32 0]) (x : Value) :
    KEP B b m l0 l k (.iface t pd) s W (.returned (.agg #[.iface 45 (.pointer (some ⟨e0, 0, none⟩)), .int .i32 l])) (((((Z.setCell ⟨W.heap.size, 0, none⟩ x).setCell ⟨W.heap.size, 1, none⟩ (.int .i32 l)).setCell ⟨e0, 7, none⟩ (.bool true)).setCell ⟨W.heap.size + 1, 0, none⟩ x).setCell ⟨W.heap.size + 1, 1, none⟩ (.int .i32 l)) := by
  have zY := hbV.size
  have AR : At Z (Y.heap.size + 1) 39 #[.iface t pd, .int .i32 l, .iface 205 (.pointer (some ⟨Y.heap.size, 0, none⟩)), .int .i32 l] := by
    have := At.new (Y.alloc (.cells #[.slice va (rest s 0).length vc, .int .i32 0, .bool false, .bool false, .bool false] 208)) 39 #[.iface t pd, .int .i32 l, .iface 205 (.pointer (some ⟨Y.heap.size, 0, none⟩)), .int .i32 l]
    rw [show (Y.alloc (.cells #[.slice va (rest s 0).length vc, .int .i32 0, .bool false, .bool false, .bool false] 208)).heap.size = Y.heap.size + 1 from by simp] at this
    exact this.kq hkq (by decide) (by decide) (by decide)
  have AQ : At Z Y.heap.size 208 #[.slice va (rest s 0).length vc, .int .i32 0, .bool false, .bool false, .bool false] := ((At.new Y 208 _).alloc _).kq hkq (by decide) (by decide) (by decide)
  have OW := ((hown.alloc _).alloc _).kq hkq
  have NZ : NCx Z e0 i (Y.heap.size + 1) Y.heap.size D (.slice va (rest s 0).length vc) l l (.iface t pd) s false := ⟨hA0, hAi, AR, AQ, OW⟩
  have KZ : Kq V Z := ((((Kq.of_below hbV).alloc _).alloc _).trans hkq)
  have KW : Kq W Z := (Kq.of_below HBV).trans KZ
  have BWZ : Below B W Z := (HBV.mono hB).trans (((hbV.mono (by omega)).alloc (by omega) _).alloc (by simp; omega) _ |>.trans hbl)
  have q0 : W.heap.size ≤ W.heap.size := Nat.le_refl _
  have q1 : W.heap.size ≤ W.heap.size + 1 := by omega
  have ne46 : W.heap.size + 1 ≠ W.heap.size := by omega
  have N1 := NZ.set A4 (by decide) (by omega) 0 x
  have N2 := N1.set (A4.set 0 x) (by decide) (by omega) 1 (.int .i32 l)
  have P2 := (hp1.set A4 (by decide) (by omega) 0 x).set (A4.set 0 x) (by decide) (by omega) 1 (.int .i32 l)
  have K2 := (KW.set q0 0 x).set q0 1 (.int .i32 l)
  have B2 := (BWZ.setCell (p := ⟨W.heap.size, 0, none⟩) (by simp; omega) x).setCell (p := ⟨W.heap.size, 1, none⟩) (by simp; omega) (.int .i32 l)
  have A62 := (A6.far (p := ⟨W.heap.size, 0, none⟩) (by simp) x).far (p := ⟨W.heap.size, 1, none⟩) (by simp) (.int .i32 l)
  obtain ⟨Z2, hZ2⟩ : ∃ Z2, Z2 = (Z.setCell ⟨W.heap.size, 0, none⟩ x).setCell ⟨W.heap.size, 1, none⟩ (.int .i32 l) := ⟨_, rfl⟩
  rw [← hZ2] at N2 P2 K2 B2 A62 ⊢
  obtain ⟨h1, h2, h3, h4, h5⟩ := N2
  have he : W.heap.size ≤ e0 := by omega
  have ni : i ≠ e0 := atNe2 h2 h1 (by decide)
  have nr : Y.heap.size + 1 ≠ e0 := atNe2 h3 h1 (by decide)
  have nq : Y.heap.size ≠ e0 := atNe2 h4 h1 (by decide)
  have n6 : W.heap.size + 1 ≠ e0 := atNe2 A62 h1 (by decide)
  have h1s := h1.set 7 (.bool true)
  have N3 : NCx (Z2.setCell ⟨e0, 7, none⟩ (.bool true)) e0 i (Y.heap.size + 1) Y.heap.size D (.slice va (rest s 0).length vc) l l (.iface t pd) s true := by
    refine ⟨h1s, h2.far (by simpa using ni) _, h3.far (by simpa using nr) _, h4.far (by simpa using nq) _, ownSet h5 (fun e => ?_) _ _⟩
    obtain ⟨cs', hg⟩ := rowType h5 e
    exact atNe2 (show At Z2 e0 209 cs' from hg) h1 (by decide) rfl
  have P3 := P2.set h1 (by decide) (by omega) 7 (.bool true)
  have K3 := K2.set he 7 (.bool true)
  have B3 := B2.setCell (p := ⟨e0, 7, none⟩) (by simp; omega) (.bool true)
  have A63 := A62.far (p := ⟨e0, 7, none⟩) (by simpa using n6) (.bool true)
  have N4 := (N3.set A63 (by decide) (by omega) 0 x).set (A63.set 0 x) (by decide) (by omega) 1 (.int .i32 l)
  exact ⟨e0, rfl, ⟨_, _, _, _, _, N4⟩, (P3.set A63 (by decide) (by omega) 0 x).set (A63.set 0 x) (by decide) (by omega) 1 _, (K3.set q1 0 x).set q1 1 _, (B3.setCell (by simp; omega) _).setCell (by simp; omega) _⟩
set_option maxRecDepth 100000 in
set_option maxHeartbeats 8000000 in
theorem keepE (B b m : Nat) (l0 l : Int) (k : Nat) (t : TypeId) (pd : Value) (s : ByteArray) (W : World) (hs : s.size ≤ 1048576) (hB : B ≤ W.heap.size) (hb : b < W.heap.size) (h : IMPH B b m l0 l k W) :
    Calls Tryd.prog 22 #[.pointer (some ⟨b, 0, none⟩), .agg #[.iface t pd, .int .i32 l], .string s] W (KEP B b m l0 l k (.iface t pd) s W) := by
  have HI := Lib.hid h
  clear h
  go_enter Tryd.func22, Tryd.ntmps22
  go_wp2_with fail
  obtain ⟨V, hV⟩ : ∃ V, V = (W.alloc (.cells #[.iface t pd, .int .i32 l] 39)).alloc (.cells #[.nilIface, .int .i32 0] 39) := ⟨_, rfl⟩
  have hWV : Below W.heap.size W V := by rw [hV]; exact ((Below.refl _ _).alloc (Nat.le_refl _) _).alloc (by simp) _
  have A4 : At V W.heap.size 39 #[.iface t pd, .int .i32 l] := by rw [hV]; exact (At.new W 39 _).alloc _
  have A6 : At V (W.heap.size + 1) 39 #[.nilIface, .int .i32 0] := by
    rw [hV]
    have := At.new (W.alloc (.cells #[.iface t pd, .int .i32 l] 39)) 39 #[.nilIface, .int .i32 0]
    rwa [show (W.alloc (.cells #[.iface t pd, .int .i32 l] 39)).heap.size = W.heap.size + 1 from by simp] at this
  rw [← hV]
  have HV := HI.out.below hWV
  have HBV := Lib.hid hWV
  have zV := hWV.size
  have HC := Lib.hid (show ∀ (ar : Addr) (W' : World), Below V.heap.size V W' → Calls Tryd.prog 24 #[.pointer (some ⟨b, 0, none⟩), .agg #[.int .i32 l], .string ⟨#[95, 95, 110, 97, 109, 101]⟩, .slice (some ar) 2 2] W' (CP B b m l0 l k (.slice (some ar) 2 2) W') from fun ar W' hW' => callR B b m l0 l k ar W' (by have := hW'.size; omega) (by have := hW'.size; omega) (HV.below hW'))
  have x6 : V.cell? ⟨W.heap.size, 0, none⟩ = some (.iface t pd) := by rw [A4.cell]; rfl
  have x7 : V.cell? ⟨W.heap.size, 1, none⟩ = some (.int .i32 l) := by rw [A4.cell]; rfl
  have l4 := A4.lt
  have l6 := A6.lt
  have H4 := Lib.hid A4
  have H6 := Lib.hid A6
  clear hV hWV HI A4 A6 HV
  go_region_with (first
    | (go_at_call 25; (with_reducible refine Calls.mono (s16 s _ hs) ?_); rintro e Y ⟨v, rfl, hown, hbY⟩; obtain ⟨va, vc, rfl⟩ := hown.shape; have hbV := undrew hbY; have zY := hbV.size; have y6 := kept hbY x6; have y7 := kept hbY x7; have l4y : W.heap.size < Y.heap.size := (by omega))
    | (go_at_call 24; (with_reducible refine Calls.mono (HC.out _ _ ((hbV.alloc zY _).alloc (by simp; omega) _)) ?_); rintro e Z ⟨e0, i, rfl, hA0, hAi, hp1, hkq, hbl, hge⟩; have zZ := hbl.size; simp at zZ; have KZ : Kq V Z := ((((Kq.of_below hbV).alloc _).alloc _).trans hkq); have A4 : At Z W.heap.size 39 #[.iface t pd, .int .i32 l] := (H4.out.kq KZ (by decide) (by decide) (by decide)); have A6 : At Z (W.heap.size + 1) 39 #[.nilIface, .int .i32 0] := (H6.out.kq KZ (by decide) (by decide) (by decide)); have z6 : Z.cell? ⟨W.heap.size, 0, none⟩ = some (.iface t pd) := (by rw [A4.cell]; rfl); have z7 : Z.cell? ⟨W.heap.size, 1, none⟩ = some (.int .i32 l) := (by rw [A4.cell]; rfl); have f0 := A4.frozen 0; have f1 := A4.frozen 1; have m4 := A4.lt; have m6 := A6.lt))
  all_goals
    have hge' : Y.heap.size ≤ e0 := by simp at hge; omega
    have END := Lib.hid (fun x => keepE_end hB hb HBV.out hbV hown (by omega) hA0 hAi hp1 hkq hbl hge' A4 A6 x)
    have c7 : Z.cell? ⟨e0, 7, none⟩ = some (.bool false) := by rw [hA0.cell]; rfl
    have fz7 := hA0.frozen 7
    have le0 := hA0.lt
    have w60 : Z.cell? ⟨W.heap.size + 1, 0, none⟩ = some .nilIface := by rw [A6.cell]; rfl
    have w61 : Z.cell? ⟨W.heap.size + 1, 1, none⟩ = some (.int .i32 0) := by rw [A6.cell]; rfl
    have fw0 := A6.frozen 0
    have fw1 := A6.frozen 1
    have n1 : ¬ e0 = W.heap.size := atNe2 hA0 A4 (by decide)
    have n2 : ¬ W.heap.size = e0 := fun e => n1 e.symm
    have n3 : ¬ e0 = W.heap.size + 1 := atNe2 hA0 A6 (by decide)
    have n4 : ¬ W.heap.size + 1 = e0 := fun e => n3 e.symm
    clear hown hA0 hAi hp1 hkq hbl hge KZ A4 A6 hbV hbY hge'
    go_wp2_with fail
    exact bodyPost_ret (v := .agg #[.iface 45 (.pointer (some ⟨e0, 0, none⟩)), .int .i32 l]) (by simp [results, Tryd.results22, go_sem, *]) rfl (END.out _)
end Go.Proofs.YtlbkdflbhhbibaaDoor
