/- Proved here: the lowering of an object with spreads. Conditions as stated. -/
import Derived.Test.YtjlmaingeobgeaaDoorOSF
import Derived.WalkKit
import Derived.WalkSpells
import Derived.WalkLawsBesides
import Derived.Lib.Hide
import Derived.Lib.SliceRun
import Derived.Deep.RegionWith
import Derived.OwnWalk
import Derived.Laws.OwnMore
import Derived.BigRegion
import Derived.Deep.RegionHeld3
import Derived.Deep.AppendLies
import Derived.ArgAppend
import Derived.StillTailTactics
import Derived.Carry
namespace Go.Proofs.YtjlmaingeobgeaaDoor
open Go.RowKit
set_option linter.unusedSimpArgs false
set_option linter.unusedVariables false

/-- What the lowering finds: the parser, the object and its properties. -/
structure INP (w : World) (b s m eo ob N : Nat) (sl : Bool) (q : Nat → Nat) (sp : Nat → Bool) : Prop where
  pr : PR w b s m
  obj : At w eo 71 #[.slice (some ⟨ob, 0, none⟩) N N, .int .i32 0, .int .i32 0, .bool sl, .bool false]
  row : ∃ cs, At w ob 231 cs ∧ ∀ j, j < N → ∀ t, t < 12 → cs[j * 12 + t]? = (prp (q j) (kd (sp j)))[t]?
theorem INP.at {w wr : World} {b s m eo ob N : Nat} {sl : Bool} {q : Nat → Nat} {sp : Nat → Bool} (h : INP w b s m eo ob N sl q sp) (hf : Fr s w wr) : At wr eo 71 #[.slice (some ⟨ob, 0, none⟩) N N, .int .i32 0, .int .i32 0, .bool sl, .bool false] ∧ ∀ j, j < N → ∀ t, t < 12 → wr.cell? ⟨ob, j * 12 + t, none⟩ = (prp (q j) (kd (sp j)))[t]? := by
  obtain ⟨cs, h1, h2⟩ := h.row
  refine ⟨h.obj.fr hf (h.pr.sne h.obj (by decide)), fun j hj t ht => ?_⟩
  rw [(h1.fr hf (h.pr.sne h1 (by decide))).cell]
  exact h2 j hj t ht
def L1 (N : Nat) (sp : Nat → Bool) (V : World) (f i : Value) (wr : World) : Prop := ∃ k : Nat, f = .bool false ∧ i = .int .i64 k ∧ k ≤ N ∧ Hid (∀ j, j < k → sp j = false) ∧ Hid (Below V.heap.size V wr)
def Dom (X B x : Nat) : Prop := X < x ∧ x < B
/-- The lowering's state before property k: the run of plain properties from t on is pending. -/
structure LS (N : Nat) (sl : Bool) (q : Nat → Nat) (sp : Nat → Bool) (l : Int) (w : World) (X b s m : Nat) (k t : Nat) (v : Value) (B : Nat) (wr : World) : Prop where
  tk : t ≤ k
  run : ∀ j, t ≤ j → j < k → sp j = false
  pr : PR wr b s m
  fr : Fr s w wr
  wB : w.heap.size ≤ B ∧ B ≤ wr.heap.size
  XB : X < B
  a4 : At wr w.heap.size 33 #[.int .i32 l]
  a6 : At wr (w.heap.size + 1) 35 #[.nilIface, .int .i32 0]
  row : (k = t ∧ ∃ g, X < g ∧ v = .slice (some ⟨g, 0, none⟩) 0 0 ∧ At wr g 231 #[]) ∨ (t < k ∧ wr.ownsRow B 231 12 v (k - t) (rowQ q t (k - t)))
  st : (t = 0 ∧ At wr X 35 #[.nilIface, .int .i32 0]) ∨ (0 < t ∧ sp (t - 1) = true ∧ ∃ T e, CH wr (Dom X B) sl q sp l T e t ∧ At wr X 35 #[.iface T (.pointer (some ⟨e, 0, none⟩)), .int .i32 l])
theorem SYof {w : World} {b s m : Nat} (h : PR w b s m) : ∃ cs, At w s 355 cs := by
  obtain ⟨_, _, cs, _, _, h, _⟩ := h
  exact ⟨cs, h⟩
/-- Behind an append. -/
theorem LS.app {N : Nat} {sl : Bool} {q : Nat → Nat} {sp : Nat → Bool} {l : Int} {w : World} {X b s m k t : Nat} {v v' : Value} {B B' : Nat} {wr w2 : World} (h : LS N sl q sp l w X b s m k t v B wr) (hw : w.heap.size + 1 < X ∧ b < w.heap.size ∧ m < w.heap.size ∧ s < w.heap.size) (hsp : sp k = false)
    (h0 : Below B wr w2) (h1 : ∀ x cs T, T ≠ 231 → At wr x T cs → At w2 x T cs) (hB : B ≤ B' ∧ B' ≤ w2.heap.size) (hown : w2.ownsRow B' 231 12 v' (k - t + 1) (rowQ q t (k - t) ++ prp (q k) 0)) : LS N sl q sp l w X b s m (k + 1) t v' B' w2 := by
  obtain ⟨tk, run, pr, fr, wB, XB, a4, a6, row, st⟩ := h
  refine ⟨by omega, fun j h1 h2 => ?_, pr.blocks (h0.block _ (by omega)) (h0.block _ (by omega)) (h0.block _ (by omega)), ⟨fr.1.trans (h0.mono (Nat.zero_le _)), fun x hx hs => (h0.block x (by omega)).trans (fr.2 x hx hs)⟩, by omega, by omega, h1 _ _ _ (by decide) a4, h1 _ _ _ (by decide) a6, .inr ⟨by omega, ?_⟩, ?_⟩
  · by_cases e : j = k
    · rw [e]; exact hsp
    · exact run j h1 (by omega)
  · rw [show k + 1 - t = k - t + 1 from by omega, rowQ, show t + (k - t) = k from by omega]
    exact hown
  · rcases st with ⟨e, hx⟩ | ⟨e, e', T, c, hc, hx⟩
    · exact .inl ⟨e, h1 _ _ _ (by decide) hx⟩
    · exact .inr ⟨e, e', T, c, hc.fr (SYof pr) (fun x hx _ => h0.block x hx.2) (fun x hx => ⟨hx.1, by have := hx.2; omega⟩), h1 _ _ _ (by decide) hx⟩
/-- Between the two halves of a spread's round: everything up to k is in the chain. -/
structure MS (sl : Bool) (q : Nat → Nat) (sp : Nat → Bool) (l : Int) (w : World) (X b s m P : Nat) (k : Nat) (g : Nat) (T : TypeId) (e : Nat) (U : World) : Prop where
  pr : PR U b s m
  fr : Fr s w U
  a4 : At U w.heap.size 33 #[.int .i32 l]
  a6 : At U (w.heap.size + 1) 35 #[.nilIface, .int .i32 0]
  aX : At U X 35 #[.iface T (.pointer (some ⟨e, 0, none⟩)), .int .i32 l]
  aP : At U P 231 #[.pointer none, .nilIface, .int .i32 0, .iface 212 (.pointer (some ⟨q k, 0, none⟩)), .int .i32 0, .nilIface, .int .i32 0, .slice none 0 0, .int .i32 0, .int .i32 0, .int .u8 5, .int .u8 0]
  row : X < g ∧ At U g 231 #[]
  ch : CH U (Dom X U.heap.size) sl q sp l T e k
theorem MS.next {N : Nat} {sl : Bool} {q : Nat → Nat} {sp : Nat → Bool} {l : Int} {w : World} {X b s m P k g : Nat} {T : TypeId} {e : Nat} {U Y : World} (h : MS sl q sp l w X b s m P k g T e U) (hw : w.heap.size + 1 < X ∧ b < w.heap.size ∧ m < w.heap.size ∧ s < w.heap.size) (hsp : sp k = true)
    {e0 i : Nat} (hY : Fr s (U.alloc (.cells #[.iface T (.pointer (some ⟨e, 0, none⟩)), .int .i32 l, .iface 212 (.pointer (some ⟨q k, 0, none⟩)), .int .i32 0] 35)) Y) (hp : PR Y b s m) (he0 : At Y e0 317 #[.iface 292 (.pointer (some ⟨i, 0, none⟩)), .int .i32 l, .slice (some ⟨U.heap.size, 0, none⟩) 2 2, .int .i32 0, .int .u8 0, .int .u8 0, .bool false, .bool false]) (hi : At Y i 294 #[.int .u32 0, .int .u32 0, .bool false, .bool false, .bool false]) (z0 : U.heap.size + 1 ≤ e0) (zi : U.heap.size + 1 ≤ i) :
    LS N sl q sp l w X b s m (k + 1) (k + 1) (.slice (some ⟨g, 0, none⟩) 0 0) Y.heap.size ((Y.setCell ⟨X, 0, none⟩ (.iface 312 (.pointer (some ⟨e0, 0, none⟩)))).setCell ⟨X, 1, none⟩ (.int .i32 l)) := by
  obtain ⟨pr, fr, a4, a6, aX, aP, row, ch⟩ := h
  have hf : Fr s U Y := (Fr.of_below ((Below.refl _ _).alloc (Nat.le_refl _) _)).trans hY
  have XU := aX.lt
  have hs := hf.size
  have sw := fr.size
  have far : ∀ x, x ≠ X → ((Y.setCell ⟨X, 0, none⟩ (.iface 312 (.pointer (some ⟨e0, 0, none⟩)))).setCell ⟨X, 1, none⟩ (.int .i32 l)).heap[x]? = Y.heap[x]? := fun x hx => by
    rw [Below.heap_setCell _ _ _ x (by simpa using hx), Below.heap_setCell _ _ _ x (by simpa using hx)]
  have sne : ∀ {g : Nat} {t : TypeId} {cs : Array Value}, At U g t cs → t ≠ 355 → g ≠ s := fun h1 h2 => pr.sne h1 h2
  have keepA : ∀ {g : Nat} {t : TypeId} {cs : Array Value}, At U g t cs → t ≠ 355 → g ≠ X → At ((Y.setCell ⟨X, 0, none⟩ (.iface 312 (.pointer (some ⟨e0, 0, none⟩)))).setCell ⟨X, 1, none⟩ (.int .i32 l)) g t cs := fun h1 h2 h3 => (far _ h3).trans (h1.fr hf (sne h1 h2))
  have hab : At Y U.heap.size 35 #[.iface T (.pointer (some ⟨e, 0, none⟩)), .int .i32 l, .iface 212 (.pointer (some ⟨q k, 0, none⟩)), .int .i32 0] := (At.new U 35 _).fr hY (by have := pr.lt.2.2; omega)
  have zz : ((Y.setCell ⟨X, 0, none⟩ (.iface 312 (.pointer (some ⟨e0, 0, none⟩)))).setCell ⟨X, 1, none⟩ (.int .i32 l)).heap.size = Y.heap.size := by simp [World.setCell]
  have aXY := aX.fr hf (sne aX (by decide))
  refine ⟨Nat.le_refl _, fun j h1 h2 => by omega, hp.set (by omega) (by omega) (by omega) 0 _ |>.set (by omega) (by omega) (by omega) 1 _, ((fr.trans hf).set (by omega) 0 _).set (by omega) 1 _, by rw [zz]; omega, by omega, keepA a4 (by decide) (by omega), keepA a6 (by decide) (by omega), .inl ⟨rfl, g, row.1, rfl, keepA row.2 (by decide) (by have := row.1; omega)⟩, .inr ⟨by omega, by simpa using hsp, 312, e0, ?_, (aXY.set 0 _).set 1 _⟩⟩
  refine .spread e0 k T e i U.heap.size hsp ⟨⟨by omega, he0.lt⟩, ⟨by omega, hi.lt⟩, ⟨by omega, hab.lt⟩⟩ ⟨⟨l, (far _ (by omega)).trans he0⟩, (far _ (by omega)).trans hi, (far _ (by omega)).trans hab⟩ (ch.fr (SYof pr) (fun x hx hxs => (far x (by have := hx.1; omega)).trans (hf.2 x hx.2 hxs)) (fun x hx => ⟨hx.1, by have := hx.2; omega⟩))

set_option maxRecDepth 100000 in
set_option maxHeartbeats 8000000 in
theorem lsId0 (b s m eo ob N : Nat) (sl : Bool) (q : Nat → Nat) (sp : Nat → Bool) (l : Int) (w : World) (hN : N ≤ 65536) (h23 : w.cell? ⟨b, 23, none⟩ = some (.int .u64 0)) (h : INP w b s m eo ob N sl q sp)  :
    Calls Tryd.prog 56 #[.pointer (some ⟨b, 0, none⟩), .agg #[.int .i32 l], .pointer (some ⟨eo, 0, none⟩)] w fun e w' => e = .returned (.agg #[.iface 59 (.pointer (some ⟨eo, 0, none⟩)), .int .i32 l]) ∧ Below w.heap.size w w' := by
  have HI := Lib.hid h
  obtain ⟨lb, lm, ls⟩ := h.pr.lt
  have lb1 : b < w.heap.size + 1 := by omega
  have leo := h.obj.lt
  have hN1 : (N : Int) ≤ 65536 := by omega
  have hN0 : (0 : Int) ≤ (N : Int) := Int.natCast_nonneg _
  clear h
  go_enter Tryd.func56, Tryd.ntmps56
  go_wp2_with fail
  obtain ⟨V, hV⟩ : ∃ V, V = (w.alloc (.cells #[.int .i32 l] 33)).alloc (.cells #[.nilIface, .int .i32 0] 35) := ⟨_, rfl⟩
  have hWV : Below w.heap.size w V := by rw [hV]; exact ((Below.refl _ _).alloc (Nat.le_refl _) _).alloc (by simp) _
  have A4 : At V w.heap.size 33 #[.int .i32 l] := by rw [hV]; exact (At.new w 33 _).alloc _
  have A6 : At V (w.heap.size + 1) 35 #[.nilIface, .int .i32 0] := by
    rw [hV]
    have := At.new (w.alloc (.cells #[.int .i32 l] 33)) 35 #[.nilIface, .int .i32 0]
    rwa [show (w.alloc (.cells #[.int .i32 l] 33)).heap.size = w.heap.size + 1 from by simp] at this
  rw [← hV]
  clear hV h23
  refine (has0 V).mono ?_
  rintro e w1 ⟨rfl, rfl⟩
  have B4 := A4
  have B6 := A6
  have hBW := hWV
  clear A4 A6 hWV
  have c4 : V.cell? ⟨w.heap.size, 0, none⟩ = some (.int .i32 l) := by rw [B4.cell]; rfl
  have c60 : V.cell? ⟨w.heap.size + 1, 0, none⟩ = some .nilIface := by rw [B6.cell]; rfl
  have c61 : V.cell? ⟨w.heap.size + 1, 1, none⟩ = some (.int .i32 0) := by rw [B6.cell]; rfl
  have f60 := B6.frozen 0
  have f61 := B6.frozen 1
  have l6 := B6.lt
  have l4 := B4.lt
  have HBW := Lib.hid hBW
  clear B4 B6 hBW
  go_wp2_with fail
  refine bodyPost_ret (v := .agg #[.iface 59 (.pointer (some ⟨eo, 0, none⟩)), .int .i32 l]) (by simp [results, Tryd.results56, go_sem, *]) rfl ⟨rfl, ?_⟩
  exact (HBW.out.setCell (by simp) _).setCell (by simp) _

set_option maxRecDepth 100000 in
set_option maxHeartbeats 8000000 in
theorem lsId1 (b s m eo ob N : Nat) (sl : Bool) (q : Nat → Nat) (sp : Nat → Bool) (l : Int) (w : World) (hN : N ≤ 65536) (h23 : w.cell? ⟨b, 23, none⟩ = some (.int .u64 35184372088832)) (h : INP w b s m eo ob N sl q sp) (hno : ∀ j, j < N → sp j = false) :
    Calls Tryd.prog 56 #[.pointer (some ⟨b, 0, none⟩), .agg #[.int .i32 l], .pointer (some ⟨eo, 0, none⟩)] w fun e w' => e = .returned (.agg #[.iface 59 (.pointer (some ⟨eo, 0, none⟩)), .int .i32 l]) ∧ Below w.heap.size w w' := by
  have HI := Lib.hid h
  obtain ⟨lb, lm, ls⟩ := h.pr.lt
  have lb1 : b < w.heap.size + 1 := by omega
  have leo := h.obj.lt
  have hN1 : (N : Int) ≤ 65536 := by omega
  have hN0 : (0 : Int) ≤ (N : Int) := Int.natCast_nonneg _
  clear h
  go_enter Tryd.func56, Tryd.ntmps56
  go_wp2_with fail
  obtain ⟨V, hV⟩ : ∃ V, V = (w.alloc (.cells #[.int .i32 l] 33)).alloc (.cells #[.nilIface, .int .i32 0] 35) := ⟨_, rfl⟩
  have hWV : Below w.heap.size w V := by rw [hV]; exact ((Below.refl _ _).alloc (Nat.le_refl _) _).alloc (by simp) _
  have A4 : At V w.heap.size 33 #[.int .i32 l] := by rw [hV]; exact (At.new w 33 _).alloc _
  have A6 : At V (w.heap.size + 1) 35 #[.nilIface, .int .i32 0] := by
    rw [hV]
    have := At.new (w.alloc (.cells #[.int .i32 l] 33)) 35 #[.nilIface, .int .i32 0]
    rwa [show (w.alloc (.cells #[.int .i32 l] 33)).heap.size = w.heap.size + 1 from by simp] at this
  rw [← hV]
  have zV := hWV.size
  have z2 : w.heap.size + 1 < V.heap.size := A6.lt
  clear hV h23
  refine (has1 V).mono ?_
  rintro e w1 ⟨rfl, rfl⟩
  have HE := HI.out.at (Fr.of_below hWV)
  have e0 : V.cell? ⟨eo, 0, none⟩ = some (.slice (some ⟨ob, 0, none⟩) N N) := by rw [HE.1.cell]; rfl
  have leV := HE.1.lt
  have H4 := Lib.hid A4
  have H6 := Lib.hid A6
  have HWV := Lib.hid hWV
  clear HE A4 A6 hWV
  go_wp2_with fail
  go_loopw [7, 26] (fun f i wr => L1 N sp V f i wr) (fun _ i _ => N - (intOf i).toNat)
  case atStart => exact ⟨0, rfl, rfl, Nat.zero_le _, Lib.hid (fun j hj => absurd hj (by omega)), Lib.hid (Below.refl _ _)⟩
  case round =>
    obtain ⟨k, rfl, rfl, hk, HNS, HBr⟩ := hrel
    clear e0
    have HVW := Lib.hid (HWV.out.trans (HBr.out.mono zV))
    by_cases hlt : k < N
    · have oc := (HI.out.at (Fr.of_below HVW.out)).2 k hlt
      have g0 : wr.cell? ⟨ob, k * 12, none⟩ = some (.pointer none) := by have := oc 0 (by omega); simpa [prp] using this
      have g1 : wr.cell? ⟨ob, k * 12 + 1, none⟩ = some (.nilIface) := by have := oc 1 (by omega); simpa [prp] using this
      have g2 : wr.cell? ⟨ob, k * 12 + 2, none⟩ = some (.int .i32 0) := by have := oc 2 (by omega); simpa [prp] using this
      have g3 : wr.cell? ⟨ob, k * 12 + 3, none⟩ = some (.iface 212 (.pointer (some ⟨q k, 0, none⟩))) := by have := oc 3 (by omega); simpa [prp] using this
      have g4 : wr.cell? ⟨ob, k * 12 + 4, none⟩ = some (.int .i32 0) := by have := oc 4 (by omega); simpa [prp] using this
      have g5 : wr.cell? ⟨ob, k * 12 + 5, none⟩ = some (.nilIface) := by have := oc 5 (by omega); simpa [prp] using this
      have g6 : wr.cell? ⟨ob, k * 12 + 6, none⟩ = some (.int .i32 0) := by have := oc 6 (by omega); simpa [prp] using this
      have g7 : wr.cell? ⟨ob, k * 12 + 7, none⟩ = some (.slice none 0 0) := by have := oc 7 (by omega); simpa [prp] using this
      have g8 : wr.cell? ⟨ob, k * 12 + 8, none⟩ = some (.int .i32 0) := by have := oc 8 (by omega); simpa [prp] using this
      have g9 : wr.cell? ⟨ob, k * 12 + 9, none⟩ = some (.int .i32 0) := by have := oc 9 (by omega); simpa [prp] using this
      have g10 : wr.cell? ⟨ob, k * 12 + 10, none⟩ = some (.int .u8 (kd (sp k))) := by have := oc 10 (by omega); simpa [prp] using this
      have g11 : wr.cell? ⟨ob, k * 12 + 11, none⟩ = some (.int .u8 0) := by have := oc 11 (by omega); simpa [prp] using this
      have lob := World.block_lt_of_cell? _ _ g0
      clear oc
      have hS := hno k hlt
      rw [hS] at g10
      have HSK := Lib.hid hS
      clear hS
      simp only [kd, Bool.false_eq_true, if_false] at g10
      go_wp2_with fail
      go_roundw
      case rel => exact ⟨k + 1, rfl, by go_num, by omega, Lib.hid (fun j hj => (Nat.lt_succ_iff_lt_or_eq.1 hj).elim (fun h => HNS.out j h) (fun e => e ▸ HSK.out)), Lib.hid (HBr.out.alloc HBr.out.size _)⟩
      case measure => simp [intOf]; omega
    · have e : k = N := by omega
      subst e
      have B4 := H4.out.below HBr.out H4.out.lt
      have B6 := H6.out.below HBr.out H6.out.lt
      have hBW := HVW.out
      have c4 : wr.cell? ⟨w.heap.size, 0, none⟩ = some (.int .i32 l) := by rw [B4.cell]; rfl
      have c60 : wr.cell? ⟨w.heap.size + 1, 0, none⟩ = some .nilIface := by rw [B6.cell]; rfl
      have c61 : wr.cell? ⟨w.heap.size + 1, 1, none⟩ = some (.int .i32 0) := by rw [B6.cell]; rfl
      have f60 := B6.frozen 0
      have f61 := B6.frozen 1
      have l6 := B6.lt
      have l4 := B4.lt
      have HBW := Lib.hid hBW
      clear B4 B6 hBW
      go_wp2_with fail
      refine bodyPost_ret (v := .agg #[.iface 59 (.pointer (some ⟨eo, 0, none⟩)), .int .i32 l]) (by simp [results, Tryd.results56, go_sem, *]) rfl ⟨rfl, ?_⟩
      exact (HBW.out.setCell (by simp) _).setCell (by simp) _

def LSP (N : Nat) (sl : Bool) (q : Nat → Nat) (sp : Nat → Bool) (l : Int) (s : Nat) (w : World) (e : Ending) (w' : World) : Prop := ∃ (T : TypeId) (e0 : Nat) (D : Nat → Prop), e = .returned (.agg #[.iface T (.pointer (some ⟨e0, 0, none⟩)), .int .i32 l]) ∧ CH w' D sl q sp l T e0 N ∧ Fr s w w' ∧ ∀ x, D x → w.heap.size ≤ x
def LR (N : Nat) (sl : Bool) (q : Nat → Nat) (sp : Nat → Bool) (l : Int) (w : World) (X b s m : Nat) (v i : Value) (wr : World) : Prop := ∃ (k t B n : Nat) (va : Option Addr) (vc : Nat), i = .int .i64 k ∧ k ≤ N ∧ v = .slice va n vc ∧ Hid (n = k - t) ∧ Hid (LS N sl q sp l w X b s m k t v B wr)

set_option maxRecDepth 100000 in
set_option maxHeartbeats 8000000 in
theorem lsGo (b s m eo ob N : Nat) (sl : Bool) (q : Nat → Nat) (sp : Nat → Bool) (l : Int) (w : World) (hN : N ≤ 65536) (h23 : w.cell? ⟨b, 23, none⟩ = some (.int .u64 35184372088832)) (h : INP w b s m eo ob N sl q sp) (hsp : ∃ j, j < N ∧ sp j = true) :
    Calls Tryd.prog 56 #[.pointer (some ⟨b, 0, none⟩), .agg #[.int .i32 l], .pointer (some ⟨eo, 0, none⟩)] w (LSP N sl q sp l s w) := by
  have HI := Lib.hid h
  obtain ⟨lb, lm, ls⟩ := h.pr.lt
  have lb1 : b < w.heap.size + 1 := by omega
  have leo := h.obj.lt
  have hN1 : (N : Int) ≤ 65536 := by omega
  have hN0 : (0 : Int) ≤ (N : Int) := Int.natCast_nonneg _
  have HSP := Lib.hid hsp
  clear h hsp
  go_enter Tryd.func56, Tryd.ntmps56
  go_wp2_with fail
  obtain ⟨V, hV⟩ : ∃ V, V = (w.alloc (.cells #[.int .i32 l] 33)).alloc (.cells #[.nilIface, .int .i32 0] 35) := ⟨_, rfl⟩
  have hWV : Below w.heap.size w V := by rw [hV]; exact ((Below.refl _ _).alloc (Nat.le_refl _) _).alloc (by simp) _
  have A4 : At V w.heap.size 33 #[.int .i32 l] := by rw [hV]; exact (At.new w 33 _).alloc _
  have A6 : At V (w.heap.size + 1) 35 #[.nilIface, .int .i32 0] := by
    rw [hV]
    have := At.new (w.alloc (.cells #[.int .i32 l] 33)) 35 #[.nilIface, .int .i32 0]
    rwa [show (w.alloc (.cells #[.int .i32 l] 33)).heap.size = w.heap.size + 1 from by simp] at this
  rw [← hV]
  have zV := hWV.size
  have z2 : w.heap.size + 1 < V.heap.size := A6.lt
  clear hV h23
  refine (has1 V).mono ?_
  rintro e w1 ⟨rfl, rfl⟩
  have HE := HI.out.at (Fr.of_below hWV)
  have e0 : V.cell? ⟨eo, 0, none⟩ = some (.slice (some ⟨ob, 0, none⟩) N N) := by rw [HE.1.cell]; rfl
  have leV := HE.1.lt
  have H4 := Lib.hid A4
  have H6 := Lib.hid A6
  have HWV := Lib.hid hWV
  clear HE A4 A6 hWV
  go_wp2_with fail
  go_loopw [7, 26] (fun f i wr => L1 N sp V f i wr) (fun _ i _ => N - (intOf i).toNat)
  case atStart => exact ⟨0, rfl, rfl, Nat.zero_le _, Lib.hid (fun j hj => absurd hj (by omega)), Lib.hid (Below.refl _ _)⟩
  case round =>
    obtain ⟨k, rfl, rfl, hk, HNS, HBr⟩ := hrel
    clear e0
    have HVW := Lib.hid (HWV.out.trans (HBr.out.mono zV))
    by_cases hlt : k < N
    · have oc := (HI.out.at (Fr.of_below HVW.out)).2 k hlt
      have g0 : wr.cell? ⟨ob, k * 12, none⟩ = some (.pointer none) := by have := oc 0 (by omega); simpa [prp] using this
      have g1 : wr.cell? ⟨ob, k * 12 + 1, none⟩ = some (.nilIface) := by have := oc 1 (by omega); simpa [prp] using this
      have g2 : wr.cell? ⟨ob, k * 12 + 2, none⟩ = some (.int .i32 0) := by have := oc 2 (by omega); simpa [prp] using this
      have g3 : wr.cell? ⟨ob, k * 12 + 3, none⟩ = some (.iface 212 (.pointer (some ⟨q k, 0, none⟩))) := by have := oc 3 (by omega); simpa [prp] using this
      have g4 : wr.cell? ⟨ob, k * 12 + 4, none⟩ = some (.int .i32 0) := by have := oc 4 (by omega); simpa [prp] using this
      have g5 : wr.cell? ⟨ob, k * 12 + 5, none⟩ = some (.nilIface) := by have := oc 5 (by omega); simpa [prp] using this
      have g6 : wr.cell? ⟨ob, k * 12 + 6, none⟩ = some (.int .i32 0) := by have := oc 6 (by omega); simpa [prp] using this
      have g7 : wr.cell? ⟨ob, k * 12 + 7, none⟩ = some (.slice none 0 0) := by have := oc 7 (by omega); simpa [prp] using this
      have g8 : wr.cell? ⟨ob, k * 12 + 8, none⟩ = some (.int .i32 0) := by have := oc 8 (by omega); simpa [prp] using this
      have g9 : wr.cell? ⟨ob, k * 12 + 9, none⟩ = some (.int .i32 0) := by have := oc 9 (by omega); simpa [prp] using this
      have g10 : wr.cell? ⟨ob, k * 12 + 10, none⟩ = some (.int .u8 (kd (sp k))) := by have := oc 10 (by omega); simpa [prp] using this
      have g11 : wr.cell? ⟨ob, k * 12 + 11, none⟩ = some (.int .u8 0) := by have := oc 11 (by omega); simpa [prp] using this
      have lob := World.block_lt_of_cell? _ _ g0
      clear oc
      cases hS : sp k
      · have HSK := Lib.hid hS
        rw [hS] at g10
        simp only [kd, Bool.false_eq_true, if_false] at g10
        clear hS
        go_wp2_with fail
        go_roundw
        case rel => exact ⟨k + 1, rfl, by go_num, by omega, Lib.hid (fun j hj => (Nat.lt_succ_iff_lt_or_eq.1 hj).elim (fun h => HNS.out j h) (fun e => e ▸ HSK.out)), Lib.hid (HBr.out.alloc HBr.out.size _)⟩
        case measure => simp [intOf]; omega
      · rw [hS] at g10
        simp only [kd, if_true] at g10
        clear hS
        have hEO := (HI.out.at (Fr.of_below HVW.out)).1
        have eo0 : wr.cell? ⟨eo, 0, none⟩ = some (.slice (some ⟨ob, 0, none⟩) N N) := by rw [hEO.cell]; rfl
        have le1 := hEO.lt
        have le2 : eo < wr.heap.size + 1 := by omega
        have le3 : eo < wr.heap.size + 1 + 1 := by omega
        have le4 : eo < wr.heap.size + 1 + 1 + 1 := by omega
        clear hEO
        go_wp2_with fail
        obtain ⟨W, hW⟩ : ∃ W, W = (((wr.alloc (.cells #[.pointer none, .nilIface, .int .i32 0, .iface 212 (.pointer (some ⟨q k, 0, none⟩)), .int .i32 0, .nilIface, .int .i32 0, .slice none 0 0, .int .i32 0, .int .i32 0, .int .u8 5, .int .u8 0] 231)).alloc (.cells #[.nilIface, .int .i32 0] 35)).alloc (.cells #[] 231)) := ⟨_, rfl⟩
        rw [← hW]
        obtain ⟨X, hX⟩ : ∃ X, X = wr.heap.size + 1 := ⟨_, rfl⟩
        have hzr := HBr.out.size
        have hwX : w.heap.size + 1 < X ∧ b < w.heap.size ∧ m < w.heap.size ∧ s < w.heap.size := ⟨by omega, lb, lm, ls⟩
        have HL0 := Lib.hid (show LS N sl q sp l w X b s m 0 0 (.slice (some ⟨X + 1, 0, none⟩) 0 0) W.heap.size W from by
          have hb : Below wr.heap.size wr W := by rw [hW]; exact (((Below.refl _ _).alloc (Nat.le_refl _) _).alloc (by simp) _).alloc (by simp; omega) _
          have hbw : Below w.heap.size w W := HVW.out.trans (hb.mono HVW.out.size)
          have a1 : At W X 35 #[.nilIface, .int .i32 0] := by
            rw [hW, hX]
            have := At.new (wr.alloc (.cells #[.pointer none, .nilIface, .int .i32 0, .iface 212 (.pointer (some ⟨q k, 0, none⟩)), .int .i32 0, .nilIface, .int .i32 0, .slice none 0 0, .int .i32 0, .int .i32 0, .int .u8 5, .int .u8 0] 231)) 35 #[.nilIface, .int .i32 0]
            rw [show (wr.alloc (.cells #[.pointer none, .nilIface, .int .i32 0, .iface 212 (.pointer (some ⟨q k, 0, none⟩)), .int .i32 0, .nilIface, .int .i32 0, .slice none 0 0, .int .i32 0, .int .i32 0, .int .u8 5, .int .u8 0] 231)).heap.size = wr.heap.size + 1 from by simp] at this
            exact this.alloc _
          have a2 : At W (X + 1) 231 #[] := by
            rw [hW, hX]
            have := At.new ((wr.alloc (.cells #[.pointer none, .nilIface, .int .i32 0, .iface 212 (.pointer (some ⟨q k, 0, none⟩)), .int .i32 0, .nilIface, .int .i32 0, .slice none 0 0, .int .i32 0, .int .i32 0, .int .u8 5, .int .u8 0] 231)).alloc (.cells #[.nilIface, .int .i32 0] 35)) 231 #[]
            rwa [show ((wr.alloc (.cells #[.pointer none, .nilIface, .int .i32 0, .iface 212 (.pointer (some ⟨q k, 0, none⟩)), .int .i32 0, .nilIface, .int .i32 0, .slice none 0 0, .int .i32 0, .int .i32 0, .int .u8 5, .int .u8 0] 231)).alloc (.cells #[.nilIface, .int .i32 0] 35)).heap.size = wr.heap.size + 1 + 1 from by simp] at this
          have b4 := H4.out.below HBr.out H4.out.lt
          have b6 := H6.out.below HBr.out H6.out.lt
          exact ⟨Nat.le_refl _, fun j h1 h2 => by omega, HI.out.pr.below hbw, Fr.of_below hbw, ⟨hbw.size, Nat.le_refl _⟩, a1.lt, b4.below hb b4.lt, b6.below hb b6.lt, .inl ⟨rfl, X + 1, by omega, rfl, a2⟩, .inl ⟨rfl, a1⟩⟩)
        rw [← hX]
        have HWX := Lib.hid hwX
        clear hW hX hwX hzr g0 g1 g2 g3 g4 g5 g6 g7 g8 g9 g10 g11 lob eo0 le1 le2 le3 le4 hlt HVW HBr HNS hk H4 H6 HWV zV z2 leV
        go_loopw [11, 46] (fun v i wq => LR N sl q sp l w X b s m v i wq) (fun _ i _ => N - (intOf i).toNat)
        case atStart => exact ⟨0, 0, W.heap.size, 0, _, _, rfl, Nat.zero_le _, rfl, Lib.hid rfl, HL0⟩
        case round =>
          rename World => wq
          obtain ⟨k, t, B, n, va, vc, rfl, hk, rfl, HNN, HL⟩ := hrel
          clear HL0
          obtain ⟨i0, hi0, hz0, hz1, hz2⟩ := info_parts info231z
          have I0 := Lib.hid hi0
          have I1 := Lib.hid hz0
          have I2 := Lib.hid hz1
          have I3 := Lib.hid hz2
          clear hi0 hz0 hz1 hz2
          have hn : n ≤ 65536 := by have := HNN.out; have := HL.out.tk; omega
          have hni : (n : Int) ≤ 65536 := by omega
          have hn0 : (0 : Int) ≤ (n : Int) := Int.natCast_nonneg _
          have hwX := HWX.out.1
          have hXq : X < wq.heap.size := by have := HL.out.XB; have := HL.out.wB; omega
          have hwq : w.heap.size + 1 < wq.heap.size := by omega
          have hwq0 : w.heap.size < wq.heap.size := by omega
          have hEO := (HI.out.at HL.out.fr).1
          have e3 : wq.cell? ⟨eo, 3, none⟩ = some (.bool sl) := by rw [hEO.cell]; rfl
          have e2 : wq.cell? ⟨eo, 2, none⟩ = some (.int .i32 0) := by rw [hEO.cell]; rfl
          have leq := hEO.lt
          have c4 : wq.cell? ⟨w.heap.size, 0, none⟩ = some (.int .i32 l) := by rw [HL.out.a4.cell]; rfl
          clear hEO
          by_cases hlt : k < N
          · have oc := (HI.out.at HL.out.fr).2 k hlt
            have g0 : wq.cell? ⟨ob, k * 12, none⟩ = some (.pointer none) := by have := oc 0 (by omega); simpa [prp] using this
            have g1 : wq.cell? ⟨ob, k * 12 + 1, none⟩ = some (.nilIface) := by have := oc 1 (by omega); simpa [prp] using this
            have g2 : wq.cell? ⟨ob, k * 12 + 2, none⟩ = some (.int .i32 0) := by have := oc 2 (by omega); simpa [prp] using this
            have g3 : wq.cell? ⟨ob, k * 12 + 3, none⟩ = some (.iface 212 (.pointer (some ⟨q k, 0, none⟩))) := by have := oc 3 (by omega); simpa [prp] using this
            have g4 : wq.cell? ⟨ob, k * 12 + 4, none⟩ = some (.int .i32 0) := by have := oc 4 (by omega); simpa [prp] using this
            have g5 : wq.cell? ⟨ob, k * 12 + 5, none⟩ = some (.nilIface) := by have := oc 5 (by omega); simpa [prp] using this
            have g6 : wq.cell? ⟨ob, k * 12 + 6, none⟩ = some (.int .i32 0) := by have := oc 6 (by omega); simpa [prp] using this
            have g7 : wq.cell? ⟨ob, k * 12 + 7, none⟩ = some (.slice none 0 0) := by have := oc 7 (by omega); simpa [prp] using this
            have g8 : wq.cell? ⟨ob, k * 12 + 8, none⟩ = some (.int .i32 0) := by have := oc 8 (by omega); simpa [prp] using this
            have g9 : wq.cell? ⟨ob, k * 12 + 9, none⟩ = some (.int .i32 0) := by have := oc 9 (by omega); simpa [prp] using this
            have g10 : wq.cell? ⟨ob, k * 12 + 10, none⟩ = some (.int .u8 (kd (sp k))) := by have := oc 10 (by omega); simpa [prp] using this
            have g11 : wq.cell? ⟨ob, k * 12 + 11, none⟩ = some (.int .u8 0) := by have := oc 11 (by omega); simpa [prp] using this
            have lob := World.block_lt_of_cell? _ _ g0
            clear oc
            cases hS : sp k
            · have HSK := Lib.hid hS
              rw [hS] at g10
              simp only [kd, Bool.false_eq_true, if_false] at g10
              clear hS
              have NW := Lib.hid (show ∀ j u, ([.pointer none, .nilIface, .int .i32 0, .iface 212 (.pointer (some ⟨q k, 0, none⟩)), .int .i32 0, .nilIface, .int .i32 0, .slice none 0 0, .int .i32 0, .int .i32 0, .int .u8 0, .int .u8 0] : List Value)[j]? = some u → ((wq.alloc (.cells #[.pointer none, .nilIface, .int .i32 0, .iface 212 (.pointer (some ⟨q k, 0, none⟩)), .int .i32 0, .nilIface, .int .i32 0, .slice none 0 0, .int .i32 0, .int .i32 0, .int .u8 0, .int .u8 0] 231)).alloc (.cells #[.pointer none, .nilIface, .int .i32 0, .iface 212 (.pointer (some ⟨q k, 0, none⟩)), .int .i32 0, .nilIface, .int .i32 0, .slice none 0 0, .int .i32 0, .int .i32 0, .int .u8 0, .int .u8 0] 231)).cell? ((⟨wq.heap.size + 1, 0, none⟩ : Addr).add j) = some u from by
                have hh := heap_alloc_new (wq.alloc (.cells #[.pointer none, .nilIface, .int .i32 0, .iface 212 (.pointer (some ⟨q k, 0, none⟩)), .int .i32 0, .nilIface, .int .i32 0, .slice none 0 0, .int .i32 0, .int .i32 0, .int .u8 0, .int .u8 0] 231)) (.cells #[.pointer none, .nilIface, .int .i32 0, .iface 212 (.pointer (some ⟨q k, 0, none⟩)), .int .i32 0, .nilIface, .int .i32 0, .slice none 0 0, .int .i32 0, .int .i32 0, .int .u8 0, .int .u8 0] 231)
                rw [show (wq.alloc (.cells #[.pointer none, .nilIface, .int .i32 0, .iface 212 (.pointer (some ⟨q k, 0, none⟩)), .int .i32 0, .nilIface, .int .i32 0, .slice none 0 0, .int .i32 0, .int .i32 0, .int .u8 0, .int .u8 0] 231)).heap.size = wq.heap.size + 1 from by simp] at hh
                exact World.news_of_block (cs := #[.pointer none, .nilIface, .int .i32 0, .iface 212 (.pointer (some ⟨q k, 0, none⟩)), .int .i32 0, .nilIface, .int .i32 0, .slice none 0 0, .int .i32 0, .int .i32 0, .int .u8 0, .int .u8 0]) (t := 231) (fr := (0, 0)) hh)
              have ONE := Lib.hid (show ∀ u ∈ ([.pointer none, .nilIface, .int .i32 0, .iface 212 (.pointer (some ⟨q k, 0, none⟩)), .int .i32 0, .nilIface, .int .i32 0, .slice none 0 0, .int .i32 0, .int .i32 0, .int .u8 0, .int .u8 0] : List Value), u.oneCell' = true from by simp [Value.oneCell'])
              have B1 : n + 1 ≤ maxLen := by unfold maxLen; omega
              have B2 : (n + 1) * 120 ≤ 140737488355328 := by omega
              have SZ := Lib.hid (show ((wq.alloc (.cells #[.pointer none, .nilIface, .int .i32 0, .iface 212 (.pointer (some ⟨q k, 0, none⟩)), .int .i32 0, .nilIface, .int .i32 0, .slice none 0 0, .int .i32 0, .int .i32 0, .int .u8 0, .int .u8 0] 231)).alloc (.cells #[.pointer none, .nilIface, .int .i32 0, .iface 212 (.pointer (some ⟨q k, 0, none⟩)), .int .i32 0, .nilIface, .int .i32 0, .slice none 0 0, .int .i32 0, .int .i32 0, .int .u8 0, .int .u8 0] 231)).heap.size = wq.heap.size + 1 + 1 from by simp)
              have HBQ := Lib.hid (show Below wq.heap.size wq ((wq.alloc (.cells #[.pointer none, .nilIface, .int .i32 0, .iface 212 (.pointer (some ⟨q k, 0, none⟩)), .int .i32 0, .nilIface, .int .i32 0, .slice none 0 0, .int .i32 0, .int .i32 0, .int .u8 0, .int .u8 0] 231)).alloc (.cells #[.pointer none, .nilIface, .int .i32 0, .iface 212 (.pointer (some ⟨q k, 0, none⟩)), .int .i32 0, .nilIface, .int .i32 0, .slice none 0 0, .int .i32 0, .int .i32 0, .int .u8 0, .int .u8 0] 231)) from ((Below.refl _ _).alloc (Nat.le_refl _) _).alloc (by simp) _)
              rcases HL.out.row with ⟨ekt, g, hg, hv, ha⟩ | ⟨etk, ho⟩
              · simp only [Value.slice.injEq] at hv
                obtain ⟨rfl, rfl, rfl⟩ := hv
                subst ekt
                clear ha hg
                have HOLD := Lib.hid (show ∀ bb, (some ⟨g, 0, none⟩ : Option Addr) = some bb → ∀ j u, ([] : List Value)[j]? = some u → ((wq.alloc (.cells #[.pointer none, .nilIface, .int .i32 0, .iface 212 (.pointer (some ⟨q k, 0, none⟩)), .int .i32 0, .nilIface, .int .i32 0, .slice none 0 0, .int .i32 0, .int .i32 0, .int .u8 0, .int .u8 0] 231)).alloc (.cells #[.pointer none, .nilIface, .int .i32 0, .iface 212 (.pointer (some ⟨q k, 0, none⟩)), .int .i32 0, .nilIface, .int .i32 0, .slice none 0 0, .int .i32 0, .int .i32 0, .int .u8 0, .int .u8 0] 231)).cell? (bb.add j) = some u from fun _ _ j u hu => by simp at hu)
                have NON := Lib.hid (show (some ⟨g, 0, none⟩ : Option Addr) = none → 0 = 0 ∧ 0 = 0 from fun _ => ⟨rfl, rfl⟩)
                go_wp2_with (with_reducible refine wpList_append_grows _ (o := ⟨some 56, _, _, _, _, _⟩) rfl _ _ 69 rfl 231 i0 _ 12 120 Tryd.underlying69 I0.out I1.out I2.out I3.out rfl (by omega) (some ⟨g, 0, none⟩) 0 0 [] rfl NON.out rfl HOLD.out ⟨wq.heap.size + 1, 0, none⟩ 1 1 [.pointer none, .nilIface, .int .i32 0, .iface 212 (.pointer (some ⟨q k, 0, none⟩)), .int .i32 0, .nilIface, .int .i32 0, .slice none 0 0, .int .i32 0, .int .i32 0, .int .u8 0, .int .u8 0] rfl rfl NW.out ONE.out (by omega) B1 B2 ?_)
                intro v' w2 hown hgr
                obtain ⟨va', vc', rfl⟩ := ownShape hown
                have hbl : Below ((wq.alloc (.cells #[.pointer none, .nilIface, .int .i32 0, .iface 212 (.pointer (some ⟨q k, 0, none⟩)), .int .i32 0, .nilIface, .int .i32 0, .slice none 0 0, .int .i32 0, .int .i32 0, .int .u8 0, .int .u8 0] 231)).alloc (.cells #[.pointer none, .nilIface, .int .i32 0, .iface 212 (.pointer (some ⟨q k, 0, none⟩)), .int .i32 0, .nilIface, .int .i32 0, .slice none 0 0, .int .i32 0, .int .i32 0, .int .u8 0, .int .u8 0] 231)).heap.size ((wq.alloc (.cells #[.pointer none, .nilIface, .int .i32 0, .iface 212 (.pointer (some ⟨q k, 0, none⟩)), .int .i32 0, .nilIface, .int .i32 0, .slice none 0 0, .int .i32 0, .int .i32 0, .int .u8 0, .int .u8 0] 231)).alloc (.cells #[.pointer none, .nilIface, .int .i32 0, .iface 212 (.pointer (some ⟨q k, 0, none⟩)), .int .i32 0, .nilIface, .int .i32 0, .slice none 0 0, .int .i32 0, .int .i32 0, .int .u8 0, .int .u8 0] 231)) w2 := Below.grown (Below.refl _ _) hgr (Nat.le_refl _) (fun x hx => by cases hx)
                have HNW := Lib.hid (show LS N sl q sp l w X b s m (k + 1) k (.slice va' (0 + 1) vc') (wq.heap.size + 1 + 1) w2 from by
                  have hb2 : Below wq.heap.size wq w2 := HBQ.out.trans (hbl.mono (by rw [SZ.out]; omega))
                  refine LS.app HL.out HWX.out HSK.out (hb2.mono HL.out.wB.2) (fun x cs T _ hx => hx.below hb2 hx.lt) ⟨by have := HL.out.wB; omega, by have := hbl.size; rw [SZ.out] at this; exact this⟩ ?_
                  rw [Nat.sub_self]
                  exact hown)
                clear hown hgr hbl
                go_wp2_with fail
                go_roundw
                case rel => exact ⟨k + 1, k, _, 0 + 1, va', vc', by go_num, by omega, rfl, Lib.hid (by omega), HNW⟩
                case measure => simp [intOf]; omega
              · rw [← HNN.out] at ho
                have OWN := Lib.hid (show ((wq.alloc (.cells #[.pointer none, .nilIface, .int .i32 0, .iface 212 (.pointer (some ⟨q k, 0, none⟩)), .int .i32 0, .nilIface, .int .i32 0, .slice none 0 0, .int .i32 0, .int .i32 0, .int .u8 0, .int .u8 0] 231)).alloc (.cells #[.pointer none, .nilIface, .int .i32 0, .iface 212 (.pointer (some ⟨q k, 0, none⟩)), .int .i32 0, .nilIface, .int .i32 0, .slice none 0 0, .int .i32 0, .int .i32 0, .int .u8 0, .int .u8 0] 231)).ownsRow B 231 12 (.slice va n vc) n (rowQ q t n) from ownKeep0 ho (fun g cs hg hat => HBQ.out.block g hat.lt))
                have B3 := Lib.hid (show B ≤ ((wq.alloc (.cells #[.pointer none, .nilIface, .int .i32 0, .iface 212 (.pointer (some ⟨q k, 0, none⟩)), .int .i32 0, .nilIface, .int .i32 0, .slice none 0 0, .int .i32 0, .int .i32 0, .int .u8 0, .int .u8 0] 231)).alloc (.cells #[.pointer none, .nilIface, .int .i32 0, .iface 212 (.pointer (some ⟨q k, 0, none⟩)), .int .i32 0, .nilIface, .int .i32 0, .slice none 0 0, .int .i32 0, .int .i32 0, .int .u8 0, .int .u8 0] 231)).heap.size from by rw [SZ.out]; have := HL.out.wB; omega)
                have HO := Lib.hid ho
                clear ho
                go_wp2_with (with_reducible refine wpList_append_lies _ (o := ⟨some 56, _, _, _, _, _⟩) rfl _ _ 69 rfl B 231 i0 _ 12 120 Tryd.underlying69 I0.out I1.out I2.out I3.out rfl (by omega) (.slice va n vc) n (rowQ q t n) rfl OWN.out ⟨wq.heap.size + 1, 0, none⟩ 1 1 [.pointer none, .nilIface, .int .i32 0, .iface 212 (.pointer (some ⟨q k, 0, none⟩)), .int .i32 0, .nilIface, .int .i32 0, .slice none 0 0, .int .i32 0, .int .i32 0, .int .u8 0, .int .u8 0] rfl rfl NW.out ONE.out (by omega) B1 B2 B3.out (wq.heap.size + 1 + 1) SZ.out ?_)
                intro g c w2 hown hgr hlie hlt2
                have HNW := Lib.hid (show LS N sl q sp l w X b s m (k + 1) t (.slice (some ⟨g, 0, none⟩) (n + 1) c) B w2 from by
                  have hob : ∀ x, (Value.slice va n vc).ownBlock = some x → B ≤ x ∧ ∃ cs, At wq x 231 cs := fun x hx => by
                    obtain ⟨_, ⟨h, _⟩ | ⟨g', cap, cur, h1, h2, h3, _⟩⟩ := HO.out
                    · rw [h] at hx; cases hx
                    · rw [h1] at hx
                      simp only [Value.ownBlock, Option.some.injEq] at hx
                      subst hx
                      exact ⟨h2, cur, h3⟩
                  have h0 : Below B wq w2 := Below.grown (HBQ.out.mono HL.out.wB.2) hgr B3.out (fun x hx => (hob x hx).1)
                  refine LS.app HL.out HWX.out HSK.out h0 (fun x cs T hT hx => ?_) ⟨Nat.le_refl _, h0.size |> fun h => by have := HL.out.wB; omega⟩ ?_
                  · have ne : (Value.slice va n vc).ownBlock ≠ some x := fun e => by
                      obtain ⟨_, cs', hc⟩ := hob x e
                      exact atNe hx hc hT rfl
                    have hx2 := hx.below HBQ.out hx.lt
                    exact (hgr.block x hx2.lt (by first | exact ne | exact ne.symm)).trans hx2
                  · rw [← HNN.out]
                    exact hown)
                clear hown hgr hlie hlt2
                go_wp2_with fail
                go_roundw
                case rel => exact ⟨k + 1, t, _, n + 1, _, c, by go_num, by omega, rfl, Lib.hid (by have := HNN.out; have := HL.out.tk; omega), HNW⟩
                case measure => simp [intOf]; omega
            · have HSK := Lib.hid hS
              rw [hS] at g10
              simp only [kd, if_true] at g10
              clear hS
              rcases HL.out.st with ⟨et, stX⟩ | ⟨et, etp, T, e, hch, stX⟩
              · subst et
                have x0 : wq.cell? ⟨X, 0, none⟩ = some .nilIface := by rw [stX.cell]; rfl
                have x1 : wq.cell? ⟨X, 1, none⟩ = some (.int .i32 0) := by rw [stX.cell]; rfl
                have HL0X := stX
                rcases HL.out.row with ⟨ekt, g, hg, hv, ha⟩ | ⟨etk, ho⟩
                · simp only [Value.slice.injEq] at hv
                  obtain ⟨rfl, rfl, rfl⟩ := hv
                  have HEK := Lib.hid ekt
                  clear HL0X ekt
                  go_wp2_with fail
                  obtain ⟨V, hV⟩ : ∃ V, V = wq.alloc (.cells #[.pointer none, .nilIface, .int .i32 0, .iface 212 (.pointer (some ⟨q k, 0, none⟩)), .int .i32 0, .nilIface, .int .i32 0, .slice none 0 0, .int .i32 0, .int .i32 0, .int .u8 5, .int .u8 0] 231) := ⟨_, rfl⟩
                  rw [← hV]
                  have hqV : Below wq.heap.size wq V := by rw [hV]; exact (Below.refl _ _).alloc (Nat.le_refl _) _
                  have APV : At V wq.heap.size 231 #[.pointer none, .nilIface, .int .i32 0, .iface 212 (.pointer (some ⟨q k, 0, none⟩)), .int .i32 0, .nilIface, .int .i32 0, .slice none 0 0, .int .i32 0, .int .i32 0, .int .u8 5, .int .u8 0] := by rw [hV]; exact At.new _ _ _
                  have AXV := stX.below hqV stX.lt
                  have v4 := kept hqV c4
                  have v3 := kept hqV e3
                  have vx0 : V.cell? ⟨X, 0, none⟩ = some .nilIface := by rw [AXV.cell]; rfl
                  have vx1 : V.cell? ⟨X, 1, none⟩ = some (.int .i32 0) := by rw [AXV.cell]; rfl
                  have fx0 := AXV.frozen 0
                  have fx1 := AXV.frozen 1
                  have lXV := AXV.lt
                  have zqV := hqV.size
                  have l4V : w.heap.size < V.heap.size := by omega
                  have leV := World.block_lt_of_cell? _ _ v3
                  have p3 : V.cell? ⟨wq.heap.size, 3, none⟩ = some (.iface 212 (.pointer (some ⟨q k, 0, none⟩))) := by rw [APV.cell]; rfl
                  have p4 : V.cell? ⟨wq.heap.size, 4, none⟩ = some (.int .i32 0) := by rw [APV.cell]; rfl
                  have lPV := APV.lt
                  have lPV1 : wq.heap.size < V.heap.size + 1 := by omega
                  have lPV2 : wq.heap.size < V.heap.size + 1 + 1 := by omega
                  have l4V1 : w.heap.size < V.heap.size + 1 := by omega
                  have l4V2 : w.heap.size < V.heap.size + 1 + 1 := by omega
                  have lXV1 : X < V.heap.size + 1 := by omega
                  have lXV2 : X < V.heap.size + 1 + 1 := by omega
                  have nXP : ¬ wq.heap.size = X := by omega
                  have nX4 : ¬ w.heap.size = X := by omega
                  have nXe : ¬ eo = X := by omega
                  have HP := Lib.hid APV
                  have HXV := Lib.hid AXV
                  have HQV := Lib.hid hqV
                  obtain ⟨U, hU⟩ : ∃ U, U = (((V.setCell ⟨X, 0, none⟩ (.iface 59 (.pointer (some ⟨V.heap.size, 0, none⟩)))).setCell ⟨X, 1, none⟩ (.int .i32 l)).alloc (.cells #[.slice (some ⟨g, 0, none⟩) 0 0, .int .i32 0, .int .i32 0, .bool sl, .bool false] 71)).alloc (.cells #[] 231) := ⟨_, rfl⟩
                  have HMS := Lib.hid (show MS sl q sp l w X b s m wq.heap.size k (V.heap.size + 1) 59 V.heap.size U from by
                    have keepA : ∀ {g : Nat} {T : TypeId} {cs : Array Value}, At V g T cs → g ≠ X → At U g T cs := fun h1 h2 => by rw [hU]; exact (((h1.far (by simpa using h2) _).far (by simpa using h2) _).alloc _).alloc _
                    have hz : ((V.setCell ⟨X, 0, none⟩ (.iface 59 (.pointer (some ⟨V.heap.size, 0, none⟩)))).setCell ⟨X, 1, none⟩ (.int .i32 l)).heap.size = V.heap.size := by simp [World.setCell]
                    have hUs : U.heap.size = V.heap.size + 1 + 1 := by rw [hU]; simp [World.setCell]
                    have aO : At U V.heap.size 71 #[.slice (some ⟨g, 0, none⟩) 0 0, .int .i32 0, .int .i32 0, .bool sl, .bool false] := by
                      rw [hU]
                      have := At.new ((V.setCell ⟨X, 0, none⟩ (.iface 59 (.pointer (some ⟨V.heap.size, 0, none⟩)))).setCell ⟨X, 1, none⟩ (.int .i32 l)) 71 #[.slice (some ⟨g, 0, none⟩) 0 0, .int .i32 0, .int .i32 0, .bool sl, .bool false]
                      rw [hz] at this
                      exact this.alloc _
                    have aG : At U (V.heap.size + 1) 231 #[] := by
                      rw [hU]
                      have := At.new (((V.setCell ⟨X, 0, none⟩ (.iface 59 (.pointer (some ⟨V.heap.size, 0, none⟩)))).setCell ⟨X, 1, none⟩ (.int .i32 l)).alloc (.cells #[.slice (some ⟨g, 0, none⟩) 0 0, .int .i32 0, .int .i32 0, .bool sl, .bool false] 71)) 231 #[]
                      rwa [show (((V.setCell ⟨X, 0, none⟩ (.iface 59 (.pointer (some ⟨V.heap.size, 0, none⟩)))).setCell ⟨X, 1, none⟩ (.int .i32 l)).alloc (.cells #[.slice (some ⟨g, 0, none⟩) 0 0, .int .i32 0, .int .i32 0, .bool sl, .bool false] 71)).heap.size = V.heap.size + 1 from by simp [World.setCell]] at this
                    have frU : Fr s w U := by rw [hU]; exact ((((HL.out.fr.trans (Fr.of_below hqV)).set (by omega) 0 _).set (by omega) 1 _).alloc _).alloc _
                    have prU : PR U b s m := by rw [hU]; exact ((((HL.out.pr.below hqV).set (by omega) (by omega) (by omega) 0 _).set (by omega) (by omega) (by omega) 1 _).alloc _).alloc _
                    have aX : At U X 35 #[.iface 59 (.pointer (some ⟨V.heap.size, 0, none⟩)), .int .i32 l] := by rw [hU]; exact (((AXV.set 0 _).set 1 _).alloc _).alloc _
                    refine ⟨prU, frU, keepA (HL.out.a4.below hqV HL.out.a4.lt) (by omega), keepA (HL.out.a6.below hqV HL.out.a6.lt) (by omega), aX, keepA APV (by omega), ⟨by omega, aG⟩, .base V.heap.size k (fun j hj => HL.out.run j (by omega) hj) ⟨⟨by omega, by show V.heap.size < U.heap.size; omega⟩, _, _, _, _, aO, ?_, ?_⟩⟩
                    · rw [HEK.out]
                      exact ⟨rfl, .inr ⟨g, 0, #[], rfl, Nat.zero_le _, keepA (ha.below hqV ha.lt) (by omega), Nat.le_refl _, Nat.zero_le _, rfl, rfl⟩⟩
                    · intro x hx
                      simp only [Value.ownBlock, Option.some.injEq] at hx
                      subst hx
                      exact ⟨hg, by show g < U.heap.size; have := ha.lt; omega⟩)
                  have HU := Lib.hid hU
                  have hzU : V.heap.size + 1 + 1 = U.heap.size := by rw [hU]; simp [World.setCell]
                  have HZU := Lib.hid hzU
                  clear hzU hV hU hqV APV AXV stX c4 e3 e2 g0 g1 g2 g3 g4 g5 g6 g7 g8 g9 g10 g11 lob
                  go_region
                  go_wp2_with fail
                  rw [HZU.out, ← HU.out]
                  refine (callR0 b s m l ⟨U.heap.size, 0, none⟩ _ (HMS.out.pr.alloc _).drew).mono ?_
                  rintro e Y ⟨e0, i, rfl, hA0, hAi, hp1, hfr, hs0, hsi⟩
                  have HNX := Lib.hid (MS.next (N := N) HMS.out HWX.out HSK.out hfr.undrew hp1 hA0 hAi (by simpa using hs0) (by simpa using hsi))
                  have aXY := (HMS.out.aX.alloc _).fr hfr.undrew (by have := HMS.out.pr.sne HMS.out.aX (by decide); exact this)
                  have y0 : Y.cell? ⟨X, 0, none⟩ = some (.iface 59 (.pointer (some ⟨V.heap.size, 0, none⟩))) := by rw [aXY.cell]; rfl
                  have y1 : Y.cell? ⟨X, 1, none⟩ = some (.int .i32 l) := by rw [aXY.cell]; rfl
                  have fy0 := aXY.frozen 0
                  have fy1 := aXY.frozen 1
                  have lXY := aXY.lt
                  clear hA0 hAi hp1 hfr hs0 hsi aXY HMS
                  go_wp2_with fail
                  go_roundw
                  case rel => exact ⟨k + 1, k + 1, _, 0, _, _, by go_num, by omega, rfl, Lib.hid (by omega), HNX⟩
                  case measure => simp [intOf]; omega
                · have hn1 : (0 : Int) < (n : Int) := by have := HNN.out; omega
                  go_wp2_with fail
                  obtain ⟨V, hV⟩ : ∃ V, V = wq.alloc (.cells #[.pointer none, .nilIface, .int .i32 0, .iface 212 (.pointer (some ⟨q k, 0, none⟩)), .int .i32 0, .nilIface, .int .i32 0, .slice none 0 0, .int .i32 0, .int .i32 0, .int .u8 5, .int .u8 0] 231) := ⟨_, rfl⟩
                  rw [← hV]
                  have hqV : Below wq.heap.size wq V := by rw [hV]; exact (Below.refl _ _).alloc (Nat.le_refl _) _
                  have APV : At V wq.heap.size 231 #[.pointer none, .nilIface, .int .i32 0, .iface 212 (.pointer (some ⟨q k, 0, none⟩)), .int .i32 0, .nilIface, .int .i32 0, .slice none 0 0, .int .i32 0, .int .i32 0, .int .u8 5, .int .u8 0] := by rw [hV]; exact At.new _ _ _
                  have AXV := stX.below hqV stX.lt
                  have v4 := kept hqV c4
                  have v3 := kept hqV e3
                  have vx0 : V.cell? ⟨X, 0, none⟩ = some .nilIface := by rw [AXV.cell]; rfl
                  have vx1 : V.cell? ⟨X, 1, none⟩ = some (.int .i32 0) := by rw [AXV.cell]; rfl
                  have fx0 := AXV.frozen 0
                  have fx1 := AXV.frozen 1
                  have lXV := AXV.lt
                  have zqV := hqV.size
                  have l4V : w.heap.size < V.heap.size := by omega
                  have leV := World.block_lt_of_cell? _ _ v3
                  have p3 : V.cell? ⟨wq.heap.size, 3, none⟩ = some (.iface 212 (.pointer (some ⟨q k, 0, none⟩))) := by rw [APV.cell]; rfl
                  have p4 : V.cell? ⟨wq.heap.size, 4, none⟩ = some (.int .i32 0) := by rw [APV.cell]; rfl
                  have lPV := APV.lt
                  have lPV1 : wq.heap.size < V.heap.size + 1 := by omega
                  have lPV2 : wq.heap.size < V.heap.size + 1 + 1 := by omega
                  have l4V1 : w.heap.size < V.heap.size + 1 := by omega
                  have l4V2 : w.heap.size < V.heap.size + 1 + 1 := by omega
                  have lXV1 : X < V.heap.size + 1 := by omega
                  have lXV2 : X < V.heap.size + 1 + 1 := by omega
                  have nXP : ¬ wq.heap.size = X := by omega
                  have nX4 : ¬ w.heap.size = X := by omega
                  have nXe : ¬ eo = X := by omega
                  have HP := Lib.hid APV
                  have HXV := Lib.hid AXV
                  have HQV := Lib.hid hqV
                  obtain ⟨U, hU⟩ : ∃ U, U = (((V.setCell ⟨X, 0, none⟩ (.iface 59 (.pointer (some ⟨V.heap.size, 0, none⟩)))).setCell ⟨X, 1, none⟩ (.int .i32 l)).alloc (.cells #[.slice va n vc, .int .i32 0, .int .i32 0, .bool sl, .bool false] 71)).alloc (.cells #[] 231) := ⟨_, rfl⟩
                  have HMS := Lib.hid (show MS sl q sp l w X b s m wq.heap.size k (V.heap.size + 1) 59 V.heap.size U from by
                    have keepA : ∀ {g : Nat} {T : TypeId} {cs : Array Value}, At V g T cs → g ≠ X → At U g T cs := fun h1 h2 => by rw [hU]; exact (((h1.far (by simpa using h2) _).far (by simpa using h2) _).alloc _).alloc _
                    have hz : ((V.setCell ⟨X, 0, none⟩ (.iface 59 (.pointer (some ⟨V.heap.size, 0, none⟩)))).setCell ⟨X, 1, none⟩ (.int .i32 l)).heap.size = V.heap.size := by simp [World.setCell]
                    have hUs : U.heap.size = V.heap.size + 1 + 1 := by rw [hU]; simp [World.setCell]
                    have aO : At U V.heap.size 71 #[.slice va n vc, .int .i32 0, .int .i32 0, .bool sl, .bool false] := by
                      rw [hU]
                      have := At.new ((V.setCell ⟨X, 0, none⟩ (.iface 59 (.pointer (some ⟨V.heap.size, 0, none⟩)))).setCell ⟨X, 1, none⟩ (.int .i32 l)) 71 #[.slice va n vc, .int .i32 0, .int .i32 0, .bool sl, .bool false]
                      rw [hz] at this
                      exact this.alloc _
                    have aG : At U (V.heap.size + 1) 231 #[] := by
                      rw [hU]
                      have := At.new (((V.setCell ⟨X, 0, none⟩ (.iface 59 (.pointer (some ⟨V.heap.size, 0, none⟩)))).setCell ⟨X, 1, none⟩ (.int .i32 l)).alloc (.cells #[.slice va n vc, .int .i32 0, .int .i32 0, .bool sl, .bool false] 71)) 231 #[]
                      rwa [show (((V.setCell ⟨X, 0, none⟩ (.iface 59 (.pointer (some ⟨V.heap.size, 0, none⟩)))).setCell ⟨X, 1, none⟩ (.int .i32 l)).alloc (.cells #[.slice va n vc, .int .i32 0, .int .i32 0, .bool sl, .bool false] 71)).heap.size = V.heap.size + 1 from by simp [World.setCell]] at this
                    have frU : Fr s w U := by rw [hU]; exact ((((HL.out.fr.trans (Fr.of_below hqV)).set (by omega) 0 _).set (by omega) 1 _).alloc _).alloc _
                    have prU : PR U b s m := by rw [hU]; exact ((((HL.out.pr.below hqV).set (by omega) (by omega) (by omega) 0 _).set (by omega) (by omega) (by omega) 1 _).alloc _).alloc _
                    have aX : At U X 35 #[.iface 59 (.pointer (some ⟨V.heap.size, 0, none⟩)), .int .i32 l] := by rw [hU]; exact (((AXV.set 0 _).set 1 _).alloc _).alloc _
                    refine ⟨prU, frU, keepA (HL.out.a4.below hqV HL.out.a4.lt) (by omega), keepA (HL.out.a6.below hqV HL.out.a6.lt) (by omega), aX, keepA APV (by omega), ⟨by omega, aG⟩, .base V.heap.size k (fun j hj => HL.out.run j (by omega) hj) ⟨⟨by omega, by show V.heap.size < U.heap.size; omega⟩, _, _, _, _, aO, ?_, ?_⟩⟩
                    · have h1 := ownLow ho (Nat.zero_le B)
                      rw [show k - 0 = k from rfl] at h1
                      exact ownKeep0 h1 (fun x cs hx hat => by
                        have := keepA (hat.below hqV hat.lt) (atNe hat HL0X (by decide))
                        exact this.trans hat.symm)
                    · intro x hx
                      obtain ⟨_, ⟨h, _⟩ | ⟨g', cap, cur, h1, h2, h3, _⟩⟩ := ho
                      · rw [h] at hx; cases hx
                      · rw [h1] at hx
                        simp only [Value.ownBlock, Option.some.injEq] at hx
                        subst hx
                        exact ⟨by have := HL.out.XB; omega, by show g' < U.heap.size; have := (show At wq g' 231 cur from h3).lt; omega⟩)
                  have HU := Lib.hid hU
                  have hzU : V.heap.size + 1 + 1 = U.heap.size := by rw [hU]; simp [World.setCell]
                  have HZU := Lib.hid hzU
                  clear hzU hV hU hqV APV AXV stX c4 e3 e2 g0 g1 g2 g3 g4 g5 g6 g7 g8 g9 g10 g11 lob
                  go_region
                  go_wp2_with fail
                  rw [HZU.out, ← HU.out]
                  refine (callR0 b s m l ⟨U.heap.size, 0, none⟩ _ (HMS.out.pr.alloc _).drew).mono ?_
                  rintro e Y ⟨e0, i, rfl, hA0, hAi, hp1, hfr, hs0, hsi⟩
                  have HNX := Lib.hid (MS.next (N := N) HMS.out HWX.out HSK.out hfr.undrew hp1 hA0 hAi (by simpa using hs0) (by simpa using hsi))
                  have aXY := (HMS.out.aX.alloc _).fr hfr.undrew (by have := HMS.out.pr.sne HMS.out.aX (by decide); exact this)
                  have y0 : Y.cell? ⟨X, 0, none⟩ = some (.iface 59 (.pointer (some ⟨V.heap.size, 0, none⟩))) := by rw [aXY.cell]; rfl
                  have y1 : Y.cell? ⟨X, 1, none⟩ = some (.int .i32 l) := by rw [aXY.cell]; rfl
                  have fy0 := aXY.frozen 0
                  have fy1 := aXY.frozen 1
                  have lXY := aXY.lt
                  clear hA0 hAi hp1 hfr hs0 hsi aXY HMS
                  go_wp2_with fail
                  go_roundw
                  case rel => exact ⟨k + 1, k + 1, _, 0, _, _, by go_num, by omega, rfl, Lib.hid (by omega), HNX⟩
                  case measure => simp [intOf]; omega
              · have x0 : wq.cell? ⟨X, 0, none⟩ = some (.iface T (.pointer (some ⟨e, 0, none⟩))) := by rw [stX.cell]; rfl
                have x1 : wq.cell? ⟨X, 1, none⟩ = some (.int .i32 l) := by rw [stX.cell]; rfl
                have HCH := Lib.hid hch
                have ETP := Lib.hid etp
                clear hch etp
                rcases HL.out.row with ⟨ekt, g, hg, hv, ha⟩ | ⟨etk, ho⟩
                · simp only [Value.slice.injEq] at hv
                  obtain ⟨rfl, rfl, rfl⟩ := hv
                  subst ekt
                  obtain ⟨U, hU⟩ : ∃ U, U = wq.alloc (.cells #[.pointer none, .nilIface, .int .i32 0, .iface 212 (.pointer (some ⟨q k, 0, none⟩)), .int .i32 0, .nilIface, .int .i32 0, .slice none 0 0, .int .i32 0, .int .i32 0, .int .u8 5, .int .u8 0] 231) := ⟨_, rfl⟩
                  have hqV : Below wq.heap.size wq U := by rw [hU]; exact (Below.refl _ _).alloc (Nat.le_refl _) _
                  have hzU : wq.heap.size + 1 = U.heap.size := by rw [hU]; simp
                  have HMS := Lib.hid (show MS sl q sp l w X b s m wq.heap.size k g T e U from
                    ⟨HL.out.pr.below hqV, HL.out.fr.trans (Fr.of_below hqV), HL.out.a4.below hqV HL.out.a4.lt, HL.out.a6.below hqV HL.out.a6.lt, stX.below hqV stX.lt, by rw [hU]; exact At.new _ _ _, ⟨hg, ha.below hqV ha.lt⟩,
                     HCH.out.fr (SYof HL.out.pr) (fun x hx _ => hqV.block x (by have := hx.2; have := HL.out.wB; omega)) (fun x hx => ⟨hx.1, by have := hx.2; have := HL.out.wB; omega⟩)⟩)
                  have HU := Lib.hid hU
                  have HZU := Lib.hid hzU
                  clear hzU hU hqV stX ha
                  go_wp2_with fail
                  rw [HZU.out, ← HU.out]
                  refine (callR0 b s m l ⟨U.heap.size, 0, none⟩ _ (HMS.out.pr.alloc _)).mono ?_
                  rintro e Y ⟨e0, i, rfl, hA0, hAi, hp1, hfr, hs0, hsi⟩
                  have HNX := Lib.hid (MS.next (N := N) HMS.out HWX.out HSK.out hfr hp1 hA0 hAi (by simpa using hs0) (by simpa using hsi))
                  have aXY := (HMS.out.aX.alloc _).fr hfr (by have := HMS.out.pr.sne HMS.out.aX (by decide); exact this)
                  have y0 : Y.cell? ⟨X, 0, none⟩ = some (.iface T (.pointer (some ⟨e, 0, none⟩))) := by rw [aXY.cell]; rfl
                  have y1 : Y.cell? ⟨X, 1, none⟩ = some (.int .i32 l) := by rw [aXY.cell]; rfl
                  have fy0 := aXY.frozen 0
                  have fy1 := aXY.frozen 1
                  have lXY := aXY.lt
                  clear hA0 hAi hp1 hfr hs0 hsi aXY HMS
                  go_wp2_with fail
                  go_roundw
                  case rel => exact ⟨k + 1, k + 1, _, 0, _, _, by go_num, by omega, rfl, Lib.hid (by omega), HNX⟩
                  case measure => simp [intOf]; omega
                · have hn1 : (0 : Int) < (n : Int) := by have := HNN.out; omega
                  go_wp2_with fail
                  obtain ⟨V, hV⟩ : ∃ V, V = wq.alloc (.cells #[.pointer none, .nilIface, .int .i32 0, .iface 212 (.pointer (some ⟨q k, 0, none⟩)), .int .i32 0, .nilIface, .int .i32 0, .slice none 0 0, .int .i32 0, .int .i32 0, .int .u8 5, .int .u8 0] 231) := ⟨_, rfl⟩
                  rw [← hV]
                  have hqV : Below wq.heap.size wq V := by rw [hV]; exact (Below.refl _ _).alloc (Nat.le_refl _) _
                  have APV : At V wq.heap.size 231 #[.pointer none, .nilIface, .int .i32 0, .iface 212 (.pointer (some ⟨q k, 0, none⟩)), .int .i32 0, .nilIface, .int .i32 0, .slice none 0 0, .int .i32 0, .int .i32 0, .int .u8 5, .int .u8 0] := by rw [hV]; exact At.new _ _ _
                  have AXV := stX.below hqV stX.lt
                  have v4 := kept hqV c4
                  have v3 := kept hqV e3
                  have vx0 : V.cell? ⟨X, 0, none⟩ = some (.iface T (.pointer (some ⟨e, 0, none⟩))) := by rw [AXV.cell]; rfl
                  have vx1 : V.cell? ⟨X, 1, none⟩ = some (.int .i32 l) := by rw [AXV.cell]; rfl
                  have lXV := AXV.lt
                  have zqV := hqV.size
                  have l4V : w.heap.size < V.heap.size := by omega
                  have leV := World.block_lt_of_cell? _ _ v3
                  have HP := Lib.hid APV
                  have HXV := Lib.hid AXV
                  have HQV := Lib.hid hqV
                  have HPV := Lib.hid (HL.out.pr.below hqV)
                  have HV := Lib.hid (show ∀ (ar : Addr) (W' : World), Below V.heap.size V W' → Calls Tryd.prog 79 #[.pointer (some ⟨b, 0, none⟩), .agg #[.int .i32 l], .string ⟨#[95, 95, 115, 112, 114, 101, 97, 100, 80, 114, 111, 112, 115]⟩, .slice (some ar) 2 2] W' (CP1 b s m l (.slice (some ar) 2 2) W') from fun ar W' hW' => callR1 b s m l ar W' (HPV.out.below hW'))
                  have n4s : w.heap.size ≠ s := by omega
                  have nXs : X ≠ s := by omega
                  have nes : eo ≠ s := HI.out.pr.sne HI.out.obj (by decide)
                  have H4V := Lib.hid (HL.out.a4.below hqV HL.out.a4.lt)
                  have H6V := Lib.hid (HL.out.a6.below hqV HL.out.a6.lt)
                  have HCV := Lib.hid (HCH.out.fr (D' := Dom X V.heap.size) (w' := V) (SYof HL.out.pr) (fun x hx _ => hqV.block x (by have := hx.2; have := HL.out.wB; omega)) (fun x hx => ⟨hx.1, by have := hx.2; have := HL.out.wB; omega⟩))
                  have HOV := Lib.hid (show V.ownsRow B 231 12 (.slice va n vc) (k - t) (rowQ q t (k - t)) from ownKeep0 ho (fun x cs hx hat => hqV.block x hat.lt))
                  clear hV hqV APV AXV stX c4 e3 e2 g0 g1 g2 g3 g4 g5 g6 g7 g8 g9 g10 g11 lob x0 x1 ho
                  refine wp_region_held_drew (S := fun w' => w'.cell? ⟨w.heap.size, 0, none⟩ = some (.int .i32 l) ∧ w'.cell? ⟨eo, 3, none⟩ = some (.bool sl)) (by kernel_rfl) ⟨v4, v3⟩ (fun hHeld => ?_)
                  refine wpAnyH_take (i := 0) (oi := _) (v := ?_) rfl (by kernel_rfl) (by kernel_rfl) (by kernel_rfl) (fun _ _ _ h => h) (Or.inl ⟨by rfl, ?_⟩) (by assumption) ?_
                  rotate_left
                  · (intro w hSw; (try dsimp only at hSw); go_simp; try (with_reducible rfl))
                  try simp only [Act.put, List.setIfInBounds_toArray, List.set_cons_zero, List.set_cons_succ]
                  refine wpAnyH_take (i := 1) (oi := _) (v := ?_) rfl (by kernel_rfl) (by kernel_rfl) (by kernel_rfl) (fun _ _ _ h => h) (Or.inl ⟨by rfl, ?_⟩) (by assumption) ?_
                  rotate_left
                  · (intro w hSw; (try dsimp only at hSw); go_simp; try (with_reducible rfl))
                  try simp only [Act.put, List.setIfInBounds_toArray, List.set_cons_zero, List.set_cons_succ]
                  refine wpAnyH_take (i := 3) (oi := _) (v := ?_) rfl (by kernel_rfl) (by kernel_rfl) (by kernel_rfl) (fun _ _ _ h => h) (Or.inl ⟨by rfl, ?_⟩) (by assumption) ?_
                  rotate_left
                  · (intro w hSw; (try dsimp only at hSw); go_simp; try (with_reducible rfl))
                  try simp only [Act.put, List.setIfInBounds_toArray, List.set_cons_zero, List.set_cons_succ]
                  refine wpAnyH_take (i := 4) (oi := _) (v := ?_) rfl (by kernel_rfl) (by kernel_rfl) (by kernel_rfl) (fun _ _ _ h => h) (Or.inl ⟨by rfl, ?_⟩) (by assumption) ?_
                  rotate_left
                  · (intro w hSw; (try dsimp only at hSw); go_simp; try (with_reducible rfl))
                  try simp only [Act.put, List.setIfInBounds_toArray, List.set_cons_zero, List.set_cons_succ]
                  refine wpAnyH_take (i := 5) (oi := _) (v := ?_) rfl (by kernel_rfl) (by kernel_rfl) (by kernel_rfl) (fun _ _ _ h => h) (Or.inl ⟨by rfl, ?_⟩) (by assumption) ?_
                  rotate_left
                  · (intro w hSw; (try dsimp only at hSw); go_simp; try (with_reducible rfl))
                  try simp only [Act.put, List.setIfInBounds_toArray, List.set_cons_zero, List.set_cons_succ]
                  refine wpAnyH_take (i := 6) (oi := _) (v := ?_) rfl (by kernel_rfl) (by kernel_rfl) (by kernel_rfl) (fun _ _ _ h => h) (Or.inl ⟨by rfl, ?_⟩) (by assumption) ?_
                  rotate_left
                  · (intro w hSw; (try dsimp only at hSw); go_simp; try (with_reducible rfl))
                  try simp only [Act.put, List.setIfInBounds_toArray, List.set_cons_zero, List.set_cons_succ]
                  refine wpAnyH_take (i := 7) (oi := _) (v := ?_) rfl (by kernel_rfl) (by kernel_rfl) (by kernel_rfl) (fun _ _ _ h => h) (Or.inl ⟨by rfl, ?_⟩) (by assumption) ?_
                  rotate_left
                  · (intro w hSw; (try dsimp only at hSw); go_simp; try (with_reducible rfl))
                  try simp only [Act.put, List.setIfInBounds_toArray, List.set_cons_zero, List.set_cons_succ]
                  refine wpAnyH_take (i := 8) (oi := _) (v := ?_) rfl (by kernel_rfl) (by kernel_rfl) (by kernel_rfl) (fun _ _ _ h => h) (Or.inl ⟨by rfl, ?_⟩) (by assumption) ?_
                  rotate_left
                  · (intro w hSw; (try dsimp only at hSw); go_simp; try (with_reducible rfl))
                  try simp only [Act.put, List.setIfInBounds_toArray, List.set_cons_zero, List.set_cons_succ]
                  refine wpAnyH_take (i := 9) (oi := _) (v := ?_) rfl (by kernel_rfl) (by kernel_rfl) (by kernel_rfl) (fun _ _ _ h => h) (Or.inl ⟨by rfl, ?_⟩) (by assumption) ?_
                  rotate_left
                  · (intro w hSw; (try dsimp only at hSw); go_simp; try (with_reducible rfl))
                  try simp only [Act.put, List.setIfInBounds_toArray, List.set_cons_zero, List.set_cons_succ]
                  refine wpAnyH_ready (rs := [2, 10]) (by kernel_rfl) (by simp) ?_
                  refine AllReadyH.cons (o := _) rfl (fun K hK => ?_) (AllReadyH.cons (o := _) rfl (fun K hK => ?_) AllReadyH.nil)
                  · go_simp
                    refine hK.out _ _ ?_ (fun hHeld => ?_)
                    · ((try dsimp only); repeat' (first | (refine And.intro ?_ ?_) | with_reducible assumption | apply kAlloc | apply kDrew | (refine kSet ?_ (by omega))))
                    clear hK K
                    try simp only [Act.put, List.setIfInBounds_toArray, List.set_cons_zero, List.set_cons_succ]
                    refine wpAnyH_ready (rs := [10]) (by kernel_rfl) (by simp) ?_
                    refine AllReadyH.cons (o := _) rfl (fun K hK => ?_) AllReadyH.nil
                    go_simp
                    refine hK.out _ _ ?_ (fun hHeld => ?_)
                    · ((try dsimp only); repeat' (first | (refine And.intro ?_ ?_) | with_reducible assumption | apply kAlloc | apply kDrew | (refine kSet ?_ (by omega))))
                    clear hK K
                    try simp only [Act.put, List.setIfInBounds_toArray, List.set_cons_zero, List.set_cons_succ]
                    refine wpAnyH_take (i := 11) (oi := _) (v := ?_) rfl (by kernel_rfl) (by kernel_rfl) (by kernel_rfl) (fun _ _ _ h => h) (Or.inl ⟨by rfl, ?_⟩) (by assumption) ?_
                    rotate_left
                    · (intro w hSw; (try dsimp only at hSw); go_simp; try (with_reducible rfl))
                    try simp only [Act.put, List.setIfInBounds_toArray, List.set_cons_zero, List.set_cons_succ]
                    refine wpAnyH_take (i := 12) (oi := _) (v := ?_) rfl (by kernel_rfl) (by kernel_rfl) (by kernel_rfl) (fun _ _ _ h => h) (Or.inl ⟨by rfl, ?_⟩) (by assumption) ?_
                    rotate_left
                    · (intro w hSw; (try dsimp only at hSw); go_simp; try (with_reducible rfl))
                    try simp only [Act.put, List.setIfInBounds_toArray, List.set_cons_zero, List.set_cons_succ]
                    refine wpAnyH_ready (rs := [13]) (by kernel_rfl) (by simp) ?_
                    refine AllReadyH.cons (o := _) rfl (fun K hK => ?_) AllReadyH.nil
                    go_simp
                    refine hK.out _ _ ?_ (fun hHeld => ?_)
                    · ((try dsimp only); repeat' (first | (refine And.intro ?_ ?_) | with_reducible assumption | apply kAlloc | apply kDrew | (refine kSet ?_ (by omega))))
                    clear hK K
                    try simp only [Act.put, List.setIfInBounds_toArray, List.set_cons_zero, List.set_cons_succ]
                    refine wpAnyH_ready (rs := [14]) (by kernel_rfl) (by simp) ?_
                    refine AllReadyH.cons (o := _) rfl (fun K hK => ?_) AllReadyH.nil
                    go_simp
                    go_at_call 79
                    refine Calls.mono (HV.out _ _ (by repeat (first | with_reducible exact Below.refl _ _ | (with_reducible refine Below.drew ?_) | (with_reducible refine Below.alloc ?_ (by simp; try omega) _) | (with_reducible refine Below.setCell ?_ (by simp; try omega) _)))) ?_
                    rintro e' Y ⟨e0, i, rfl, hA0, hAi, hp1, hfr, hs0, hsi⟩
                    have KY : Fr s V Y := (Fr.of_below (by repeat (first | with_reducible exact Below.refl _ _ | (with_reducible refine Below.drew ?_) | (with_reducible refine Below.alloc ?_ (by simp; try omega) _) | (with_reducible refine Below.setCell ?_ (by simp; try omega) _)))).trans hfr
                    have AY := HXV.out.fr KY nXs
                    have B4 := H4V.out.fr KY n4s
                    have y4 : Y.cell? ⟨w.heap.size, 0, none⟩ = some (.int .i32 l) := by rw [B4.cell]; rfl
                    have yx0 : Y.cell? ⟨X, 0, none⟩ = some (.iface T (.pointer (some ⟨e, 0, none⟩))) := by rw [AY.cell]; rfl
                    have yx1 : Y.cell? ⟨X, 1, none⟩ = some (.int .i32 l) := by rw [AY.cell]; rfl
                    have ye3 := KY.cell nes v3
                    have f0 := AY.frozen 0
                    have f1 := AY.frozen 1
                    have lY := AY.lt
                    have lY4 := B4.lt
                    have zY := KY.size
                    refine hK.out _ _ ?_ (fun hHeld => ?_)
                    · ((try dsimp only); repeat' (first | (refine And.intro ?_ ?_) | with_reducible assumption | apply kAlloc | apply kDrew | (refine kSet ?_ (by omega))))
                    clear hK K
                    try simp only [Act.put, List.setIfInBounds_toArray, List.set_cons_zero, List.set_cons_succ]
                    refine wpAnyH_ready (rs := [15]) (by kernel_rfl) (by simp) ?_
                    refine AllReadyH.cons (o := _) rfl (fun K hK => ?_) AllReadyH.nil
                    go_simp
                    refine hK.out _ _ ?_ (fun hHeld => ?_)
                    · ((try dsimp only); repeat' (first | (refine And.intro ?_ ?_) | with_reducible assumption | apply kAlloc | apply kDrew | (refine kSet ?_ (by omega))))
                    clear hK K
                    try simp only [Act.put, List.setIfInBounds_toArray, List.set_cons_zero, List.set_cons_succ]
                    refine wpAnyH_done (by kernel_rfl) ?_ _
                    have hqs := HQV.out.size
                    have aOB := (show At (((V.alloc (.cells #[.slice va n vc, .int .i32 0, .int .i32 0, .bool sl, .bool false] 71)).alloc (.cells #[.iface T (.pointer (some ⟨e, 0, none⟩)), .int .i32 l, .iface 59 (.pointer (some ⟨V.heap.size, 0, none⟩)), .int .i32 l] 35)).drew) V.heap.size 71 #[.slice va n vc, .int .i32 0, .int .i32 0, .bool sl, .bool false] from ((At.new V 71 _).alloc _).drew).fr hfr (by have := HPV.out.lt.2.2; omega)
                    have aAR := (show At (((V.alloc (.cells #[.slice va n vc, .int .i32 0, .int .i32 0, .bool sl, .bool false] 71)).alloc (.cells #[.iface T (.pointer (some ⟨e, 0, none⟩)), .int .i32 l, .iface 59 (.pointer (some ⟨V.heap.size, 0, none⟩)), .int .i32 l] 35)).drew) (V.heap.size + 1) 35 #[.iface T (.pointer (some ⟨e, 0, none⟩)), .int .i32 l, .iface 59 (.pointer (some ⟨V.heap.size, 0, none⟩)), .int .i32 l] from by
                      have := At.new (V.alloc (.cells #[.slice va n vc, .int .i32 0, .int .i32 0, .bool sl, .bool false] 71)) 35 #[.iface T (.pointer (some ⟨e, 0, none⟩)), .int .i32 l, .iface 59 (.pointer (some ⟨V.heap.size, 0, none⟩)), .int .i32 l]
                      rw [show (V.alloc (.cells #[.slice va n vc, .int .i32 0, .int .i32 0, .bool sl, .bool false] 71)).heap.size = V.heap.size + 1 from by simp] at this
                      exact this.drew).fr hfr (by have := HPV.out.lt.2.2; omega)
                    simp at hs0 hsi
                    obtain ⟨U, hU⟩ : ∃ U, U = ((Y.setCell ⟨X, 0, none⟩ (.iface 312 (.pointer (some ⟨e0, 0, none⟩)))).setCell ⟨X, 1, none⟩ (.int .i32 l)).alloc (.cells #[] 231) := ⟨_, rfl⟩
                    have hzU : Y.heap.size + 1 = U.heap.size := by rw [hU]; simp [World.setCell]
                    have farU : ∀ x, x ≠ X → x < Y.heap.size → U.heap[x]? = Y.heap[x]? := fun x hx hl => by
                      rw [hU, Below.heap_alloc _ _ x (by simpa [World.setCell] using hl), Below.heap_setCell _ _ _ x (by simpa using hx), Below.heap_setCell _ _ _ x (by simpa using hx)]
                    have keepU : ∀ {g : Nat} {t : TypeId} {cs : Array Value}, At Y g t cs → g ≠ X → At U g t cs := fun h1 h2 => (farU _ h2 h1.lt).trans h1
                    have HEND := Lib.hid (show PR U b s m ∧ Fr s w U ∧ CH U (Dom X U.heap.size) sl q sp l 312 e0 k from by
                      have tk := HL.out.tk
                      refine ⟨by rw [hU]; exact ((hp1.set (by omega) (by omega) (by omega) 0 _).set (by omega) (by omega) (by omega) 1 _).alloc _, by rw [hU]; exact ((((HL.out.fr.trans (Fr.of_below HQV.out)).trans KY).set (by omega) 0 _).set (by omega) 1 _).alloc _, ?_⟩
                      have hV0 := HPV.out.lt.2.2
                      refine .props e0 t k T e V.heap.size i (V.heap.size + 1) ⟨et, etk⟩ ETP.out HL.out.run ⟨⟨by omega, by have := hA0.lt; omega⟩, ⟨by omega, by have := hAi.lt; omega⟩, ⟨by omega, by have := aAR.lt; omega⟩⟩ ⟨⟨l, keepU hA0 (by omega)⟩, keepU hAi (by omega), keepU aAR (by omega)⟩ ⟨⟨by omega, by have := aOB.lt; omega⟩, _, _, _, _, keepU aOB (by omega), ?_, ?_⟩ ?_
                      · exact ownKeep0 (ownLow HOV.out (Nat.zero_le B)) (fun x cs hx hat => by
                          have h1 := hat.fr KY (HPV.out.sne hat (by decide))
                          exact (keepU h1 (atNe hat HXV.out (by decide))).trans hat.symm)
                      · intro x hx
                        obtain ⟨_, ⟨h, _⟩ | ⟨g', cap, cur, h1, h2, h3, _⟩⟩ := HOV.out
                        · rw [h] at hx; cases hx
                        · rw [h1] at hx
                          simp only [Value.ownBlock, Option.some.injEq] at hx
                          subst hx
                          exact ⟨by have := HL.out.XB; omega, by have := (show At V g' 231 cur from h3).lt; omega⟩
                      · exact HCV.out.fr (SYof HPV.out) (fun x hx hxs => (farU x (by have := hx.1; omega) (by have := hx.2; omega)).trans (KY.2 x hx.2 hxs)) (fun x hx => ⟨hx.1, by have := hx.2; omega⟩))
                    have HMS := Lib.hid (show MS sl q sp l w X b s m wq.heap.size k Y.heap.size 312 e0 U from ⟨HEND.out.1, HEND.out.2.1, keepU B4 (by omega), keepU (H6V.out.fr KY (by omega)) (by omega), by rw [hU]; exact ((AY.set 0 _).set 1 _).alloc _, keepU (HP.out.fr KY (by omega)) (by omega), ⟨lY, by
                      rw [hU]
                      have := At.new ((Y.setCell ⟨X, 0, none⟩ (.iface 312 (.pointer (some ⟨e0, 0, none⟩)))).setCell ⟨X, 1, none⟩ (.int .i32 l)) 231 #[]
                      rwa [show ((Y.setCell ⟨X, 0, none⟩ (.iface 312 (.pointer (some ⟨e0, 0, none⟩)))).setCell ⟨X, 1, none⟩ (.int .i32 l)).heap.size = Y.heap.size from by simp [World.setCell]] at this⟩, HEND.out.2.2⟩)
                    have AP := HP.out.fr KY (by have := HPV.out.lt.2.2; have := HPV.out.sne HP.out (by decide); exact this)
                    have p3 : Y.cell? ⟨wq.heap.size, 3, none⟩ = some (.iface 212 (.pointer (some ⟨q k, 0, none⟩))) := by rw [AP.cell]; rfl
                    have p4 : Y.cell? ⟨wq.heap.size, 4, none⟩ = some (.int .i32 0) := by rw [AP.cell]; rfl
                    have lP := AP.lt
                    have lP1 : wq.heap.size < Y.heap.size + 1 := by omega
                    have lY1 : X < Y.heap.size + 1 := by omega
                    have l41 : w.heap.size < Y.heap.size + 1 := by omega
                    have nXP : ¬ wq.heap.size = X := by omega
                    have nX4 : ¬ w.heap.size = X := by omega
                    have HU := Lib.hid hU
                    have HZU := Lib.hid hzU
                    clear hU hzU hA0 hAi hp1 hfr hs0 hsi KY AY B4 aOB aAR farU keepU HEND AP
                    go_wp2_with fail
                    rw [HZU.out, ← HU.out]
                    refine (callR0 b s m l ⟨U.heap.size, 0, none⟩ _ (HMS.out.pr.alloc _)).mono ?_
                    rintro e Y ⟨e1, i1, rfl, hA0, hAi, hp1, hfr, hs0, hsi⟩
                    have HNX := Lib.hid (MS.next (N := N) HMS.out HWX.out HSK.out hfr hp1 hA0 hAi (by simpa using hs0) (by simpa using hsi))
                    have aXY := (HMS.out.aX.alloc _).fr hfr (by have := HMS.out.pr.sne HMS.out.aX (by decide); exact this)
                    have y0 : Y.cell? ⟨X, 0, none⟩ = some (.iface 312 (.pointer (some ⟨e0, 0, none⟩))) := by rw [aXY.cell]; rfl
                    have y1 : Y.cell? ⟨X, 1, none⟩ = some (.int .i32 l) := by rw [aXY.cell]; rfl
                    have fy0 := aXY.frozen 0
                    have fy1 := aXY.frozen 1
                    have lXY := aXY.lt
                    clear hA0 hAi hp1 hfr hs0 hsi aXY HMS
                    go_wp2_with fail
                    go_roundw
                    case rel => exact ⟨k + 1, k + 1, _, 0, _, _, by go_num, by omega, rfl, Lib.hid (by omega), HNX⟩
                    case measure => simp [intOf]; omega
                  · go_simp
                    refine hK.out _ _ ?_ (fun hHeld => ?_)
                    · ((try dsimp only); repeat' (first | (refine And.intro ?_ ?_) | with_reducible assumption | apply kAlloc | apply kDrew | (refine kSet ?_ (by omega))))
                    clear hK K
                    try simp only [Act.put, List.setIfInBounds_toArray, List.set_cons_zero, List.set_cons_succ]
                    refine wpAnyH_take (i := 11) (oi := _) (v := ?_) rfl (by kernel_rfl) (by kernel_rfl) (by kernel_rfl) (fun _ _ _ h => h) (Or.inl ⟨by rfl, ?_⟩) (by assumption) ?_
                    rotate_left
                    · (intro w hSw; (try dsimp only at hSw); go_simp; try (with_reducible rfl))
                    try simp only [Act.put, List.setIfInBounds_toArray, List.set_cons_zero, List.set_cons_succ]
                    refine wpAnyH_take (i := 12) (oi := _) (v := ?_) rfl (by kernel_rfl) (by kernel_rfl) (by kernel_rfl) (fun _ _ _ h => h) (Or.inl ⟨by rfl, ?_⟩) (by assumption) ?_
                    rotate_left
                    · (intro w hSw; (try dsimp only at hSw); go_simp; try (with_reducible rfl))
                    try simp only [Act.put, List.setIfInBounds_toArray, List.set_cons_zero, List.set_cons_succ]
                    refine wpAnyH_ready (rs := [2]) (by kernel_rfl) (by simp) ?_
                    refine AllReadyH.cons (o := _) rfl (fun K hK => ?_) AllReadyH.nil
                    go_simp
                    refine hK.out _ _ ?_ (fun hHeld => ?_)
                    · ((try dsimp only); repeat' (first | (refine And.intro ?_ ?_) | with_reducible assumption | apply kAlloc | apply kDrew | (refine kSet ?_ (by omega))))
                    clear hK K
                    try simp only [Act.put, List.setIfInBounds_toArray, List.set_cons_zero, List.set_cons_succ]
                    refine wpAnyH_ready (rs := [13]) (by kernel_rfl) (by simp) ?_
                    refine AllReadyH.cons (o := _) rfl (fun K hK => ?_) AllReadyH.nil
                    go_simp
                    refine hK.out _ _ ?_ (fun hHeld => ?_)
                    · ((try dsimp only); repeat' (first | (refine And.intro ?_ ?_) | with_reducible assumption | apply kAlloc | apply kDrew | (refine kSet ?_ (by omega))))
                    clear hK K
                    try simp only [Act.put, List.setIfInBounds_toArray, List.set_cons_zero, List.set_cons_succ]
                    refine wpAnyH_ready (rs := [14]) (by kernel_rfl) (by simp) ?_
                    refine AllReadyH.cons (o := _) rfl (fun K hK => ?_) AllReadyH.nil
                    go_simp
                    go_at_call 79
                    refine Calls.mono (HV.out _ _ (by repeat (first | with_reducible exact Below.refl _ _ | (with_reducible refine Below.drew ?_) | (with_reducible refine Below.alloc ?_ (by simp; try omega) _) | (with_reducible refine Below.setCell ?_ (by simp; try omega) _)))) ?_
                    rintro e' Y ⟨e0, i, rfl, hA0, hAi, hp1, hfr, hs0, hsi⟩
                    have KY : Fr s V Y := (Fr.of_below (by repeat (first | with_reducible exact Below.refl _ _ | (with_reducible refine Below.drew ?_) | (with_reducible refine Below.alloc ?_ (by simp; try omega) _) | (with_reducible refine Below.setCell ?_ (by simp; try omega) _)))).trans hfr
                    have AY := HXV.out.fr KY nXs
                    have B4 := H4V.out.fr KY n4s
                    have y4 : Y.cell? ⟨w.heap.size, 0, none⟩ = some (.int .i32 l) := by rw [B4.cell]; rfl
                    have yx0 : Y.cell? ⟨X, 0, none⟩ = some (.iface T (.pointer (some ⟨e, 0, none⟩))) := by rw [AY.cell]; rfl
                    have yx1 : Y.cell? ⟨X, 1, none⟩ = some (.int .i32 l) := by rw [AY.cell]; rfl
                    have ye3 := KY.cell nes v3
                    have f0 := AY.frozen 0
                    have f1 := AY.frozen 1
                    have lY := AY.lt
                    have lY4 := B4.lt
                    have zY := KY.size
                    refine hK.out _ _ ?_ (fun hHeld => ?_)
                    · ((try dsimp only); repeat' (first | (refine And.intro ?_ ?_) | with_reducible assumption | apply kAlloc | apply kDrew | (refine kSet ?_ (by omega))))
                    clear hK K
                    try simp only [Act.put, List.setIfInBounds_toArray, List.set_cons_zero, List.set_cons_succ]
                    refine wpAnyH_ready (rs := [15]) (by kernel_rfl) (by simp) ?_
                    refine AllReadyH.cons (o := _) rfl (fun K hK => ?_) AllReadyH.nil
                    go_simp
                    refine hK.out _ _ ?_ (fun hHeld => ?_)
                    · ((try dsimp only); repeat' (first | (refine And.intro ?_ ?_) | with_reducible assumption | apply kAlloc | apply kDrew | (refine kSet ?_ (by omega))))
                    clear hK K
                    try simp only [Act.put, List.setIfInBounds_toArray, List.set_cons_zero, List.set_cons_succ]
                    refine wpAnyH_done (by kernel_rfl) ?_ _
                    have hqs := HQV.out.size
                    have aOB := (show At (((V.alloc (.cells #[.slice va n vc, .int .i32 0, .int .i32 0, .bool sl, .bool false] 71)).alloc (.cells #[.iface T (.pointer (some ⟨e, 0, none⟩)), .int .i32 l, .iface 59 (.pointer (some ⟨V.heap.size, 0, none⟩)), .int .i32 l] 35)).drew) V.heap.size 71 #[.slice va n vc, .int .i32 0, .int .i32 0, .bool sl, .bool false] from ((At.new V 71 _).alloc _).drew).fr hfr (by have := HPV.out.lt.2.2; omega)
                    have aAR := (show At (((V.alloc (.cells #[.slice va n vc, .int .i32 0, .int .i32 0, .bool sl, .bool false] 71)).alloc (.cells #[.iface T (.pointer (some ⟨e, 0, none⟩)), .int .i32 l, .iface 59 (.pointer (some ⟨V.heap.size, 0, none⟩)), .int .i32 l] 35)).drew) (V.heap.size + 1) 35 #[.iface T (.pointer (some ⟨e, 0, none⟩)), .int .i32 l, .iface 59 (.pointer (some ⟨V.heap.size, 0, none⟩)), .int .i32 l] from by
                      have := At.new (V.alloc (.cells #[.slice va n vc, .int .i32 0, .int .i32 0, .bool sl, .bool false] 71)) 35 #[.iface T (.pointer (some ⟨e, 0, none⟩)), .int .i32 l, .iface 59 (.pointer (some ⟨V.heap.size, 0, none⟩)), .int .i32 l]
                      rw [show (V.alloc (.cells #[.slice va n vc, .int .i32 0, .int .i32 0, .bool sl, .bool false] 71)).heap.size = V.heap.size + 1 from by simp] at this
                      exact this.drew).fr hfr (by have := HPV.out.lt.2.2; omega)
                    simp at hs0 hsi
                    obtain ⟨U, hU⟩ : ∃ U, U = ((Y.setCell ⟨X, 0, none⟩ (.iface 312 (.pointer (some ⟨e0, 0, none⟩)))).setCell ⟨X, 1, none⟩ (.int .i32 l)).alloc (.cells #[] 231) := ⟨_, rfl⟩
                    have hzU : Y.heap.size + 1 = U.heap.size := by rw [hU]; simp [World.setCell]
                    have farU : ∀ x, x ≠ X → x < Y.heap.size → U.heap[x]? = Y.heap[x]? := fun x hx hl => by
                      rw [hU, Below.heap_alloc _ _ x (by simpa [World.setCell] using hl), Below.heap_setCell _ _ _ x (by simpa using hx), Below.heap_setCell _ _ _ x (by simpa using hx)]
                    have keepU : ∀ {g : Nat} {t : TypeId} {cs : Array Value}, At Y g t cs → g ≠ X → At U g t cs := fun h1 h2 => (farU _ h2 h1.lt).trans h1
                    have HEND := Lib.hid (show PR U b s m ∧ Fr s w U ∧ CH U (Dom X U.heap.size) sl q sp l 312 e0 k from by
                      have tk := HL.out.tk
                      refine ⟨by rw [hU]; exact ((hp1.set (by omega) (by omega) (by omega) 0 _).set (by omega) (by omega) (by omega) 1 _).alloc _, by rw [hU]; exact ((((HL.out.fr.trans (Fr.of_below HQV.out)).trans KY).set (by omega) 0 _).set (by omega) 1 _).alloc _, ?_⟩
                      have hV0 := HPV.out.lt.2.2
                      refine .props e0 t k T e V.heap.size i (V.heap.size + 1) ⟨et, etk⟩ ETP.out HL.out.run ⟨⟨by omega, by have := hA0.lt; omega⟩, ⟨by omega, by have := hAi.lt; omega⟩, ⟨by omega, by have := aAR.lt; omega⟩⟩ ⟨⟨l, keepU hA0 (by omega)⟩, keepU hAi (by omega), keepU aAR (by omega)⟩ ⟨⟨by omega, by have := aOB.lt; omega⟩, _, _, _, _, keepU aOB (by omega), ?_, ?_⟩ ?_
                      · exact ownKeep0 (ownLow HOV.out (Nat.zero_le B)) (fun x cs hx hat => by
                          have h1 := hat.fr KY (HPV.out.sne hat (by decide))
                          exact (keepU h1 (atNe hat HXV.out (by decide))).trans hat.symm)
                      · intro x hx
                        obtain ⟨_, ⟨h, _⟩ | ⟨g', cap, cur, h1, h2, h3, _⟩⟩ := HOV.out
                        · rw [h] at hx; cases hx
                        · rw [h1] at hx
                          simp only [Value.ownBlock, Option.some.injEq] at hx
                          subst hx
                          exact ⟨by have := HL.out.XB; omega, by have := (show At V g' 231 cur from h3).lt; omega⟩
                      · exact HCV.out.fr (SYof HPV.out) (fun x hx hxs => (farU x (by have := hx.1; omega) (by have := hx.2; omega)).trans (KY.2 x hx.2 hxs)) (fun x hx => ⟨hx.1, by have := hx.2; omega⟩))
                    have HMS := Lib.hid (show MS sl q sp l w X b s m wq.heap.size k Y.heap.size 312 e0 U from ⟨HEND.out.1, HEND.out.2.1, keepU B4 (by omega), keepU (H6V.out.fr KY (by omega)) (by omega), by rw [hU]; exact ((AY.set 0 _).set 1 _).alloc _, keepU (HP.out.fr KY (by omega)) (by omega), ⟨lY, by
                      rw [hU]
                      have := At.new ((Y.setCell ⟨X, 0, none⟩ (.iface 312 (.pointer (some ⟨e0, 0, none⟩)))).setCell ⟨X, 1, none⟩ (.int .i32 l)) 231 #[]
                      rwa [show ((Y.setCell ⟨X, 0, none⟩ (.iface 312 (.pointer (some ⟨e0, 0, none⟩)))).setCell ⟨X, 1, none⟩ (.int .i32 l)).heap.size = Y.heap.size from by simp [World.setCell]] at this⟩, HEND.out.2.2⟩)
                    have AP := HP.out.fr KY (by have := HPV.out.lt.2.2; have := HPV.out.sne HP.out (by decide); exact this)
                    have p3 : Y.cell? ⟨wq.heap.size, 3, none⟩ = some (.iface 212 (.pointer (some ⟨q k, 0, none⟩))) := by rw [AP.cell]; rfl
                    have p4 : Y.cell? ⟨wq.heap.size, 4, none⟩ = some (.int .i32 0) := by rw [AP.cell]; rfl
                    have lP := AP.lt
                    have lP1 : wq.heap.size < Y.heap.size + 1 := by omega
                    have lY1 : X < Y.heap.size + 1 := by omega
                    have l41 : w.heap.size < Y.heap.size + 1 := by omega
                    have nXP : ¬ wq.heap.size = X := by omega
                    have nX4 : ¬ w.heap.size = X := by omega
                    have HU := Lib.hid hU
                    have HZU := Lib.hid hzU
                    clear hU hzU hA0 hAi hp1 hfr hs0 hsi KY AY B4 aOB aAR farU keepU HEND AP
                    go_wp2_with fail
                    rw [HZU.out, ← HU.out]
                    refine (callR0 b s m l ⟨U.heap.size, 0, none⟩ _ (HMS.out.pr.alloc _)).mono ?_
                    rintro e Y ⟨e1, i1, rfl, hA0, hAi, hp1, hfr, hs0, hsi⟩
                    have HNX := Lib.hid (MS.next (N := N) HMS.out HWX.out HSK.out hfr hp1 hA0 hAi (by simpa using hs0) (by simpa using hsi))
                    have aXY := (HMS.out.aX.alloc _).fr hfr (by have := HMS.out.pr.sne HMS.out.aX (by decide); exact this)
                    have y0 : Y.cell? ⟨X, 0, none⟩ = some (.iface 312 (.pointer (some ⟨e0, 0, none⟩))) := by rw [aXY.cell]; rfl
                    have y1 : Y.cell? ⟨X, 1, none⟩ = some (.int .i32 l) := by rw [aXY.cell]; rfl
                    have fy0 := aXY.frozen 0
                    have fy1 := aXY.frozen 1
                    have lXY := aXY.lt
                    clear hA0 hAi hp1 hfr hs0 hsi aXY HMS
                    go_wp2_with fail
                    go_roundw
                    case rel => exact ⟨k + 1, k + 1, _, 0, _, _, by go_num, by omega, rfl, Lib.hid (by omega), HNX⟩
                    case measure => simp [intOf]; omega
          · have ek : k = N := by omega
            subst ek
            rcases HL.out.st with ⟨et, stX⟩ | ⟨et, etp, T, e, hch, stX⟩
            · exfalso
              obtain ⟨j, hj, hj'⟩ := HSP.out
              have := HL.out.run j (by omega) (by omega)
              rw [this] at hj'
              cases hj'
            · have x0 : wq.cell? ⟨X, 0, none⟩ = some (.iface T (.pointer (some ⟨e, 0, none⟩))) := by rw [stX.cell]; rfl
              have x1 : wq.cell? ⟨X, 1, none⟩ = some (.int .i32 l) := by rw [stX.cell]; rfl
              have HCH := Lib.hid hch
              have ETP := Lib.hid etp
              clear hch etp
              rcases HL.out.row with ⟨ekt, g, hg, hv, ha⟩ | ⟨etk, ho⟩
              · simp only [Value.slice.injEq] at hv
                obtain ⟨rfl, rfl, rfl⟩ := hv
                subst ekt
                have B6 := HL.out.a6
                have c60 : wq.cell? ⟨w.heap.size + 1, 0, none⟩ = some .nilIface := by rw [B6.cell]; rfl
                have c61 : wq.cell? ⟨w.heap.size + 1, 1, none⟩ = some (.int .i32 0) := by rw [B6.cell]; rfl
                have f60 := B6.frozen 0
                have f61 := B6.frozen 1
                have l6 := B6.lt
                have nX6 : ¬ X = w.heap.size + 1 := by omega
                have nX6' : ¬ w.heap.size + 1 = X := by omega
                have HFIN := Lib.hid (show LSP k sl q sp l s w (.returned (.agg #[.iface T (.pointer (some ⟨e, 0, none⟩)), .int .i32 l])) ((wq.setCell ⟨w.heap.size + 1, 0, none⟩ (.iface T (.pointer (some ⟨e, 0, none⟩)))).setCell ⟨w.heap.size + 1, 1, none⟩ (.int .i32 l)) from
                  ⟨T, e, Dom X B, rfl, HCH.out.fr (SYof HL.out.pr) (fun x hx _ => by rw [Below.heap_setCell _ _ _ x (by have := hx.1; simp; omega), Below.heap_setCell _ _ _ x (by have := hx.1; simp; omega)]) (fun x hx => hx), (HL.out.fr.set (by omega) 0 _).set (by omega) 1 _, fun x hx => by have := hx.1; omega⟩)
                clear ha hg B6 stX
                go_wp2_with fail
                exact bodyPost_ret (v := .agg #[.iface T (.pointer (some ⟨e, 0, none⟩)), .int .i32 l]) (by simp [results, Tryd.results56, go_sem, *]) rfl HFIN.out
              · have hn1 : (0 : Int) < (n : Int) := by have := HNN.out; omega
                have HXV := Lib.hid stX
                have HPV := Lib.hid HL.out.pr
                have HV := Lib.hid (show ∀ (ar : Addr) (W' : World), Below wq.heap.size wq W' → Calls Tryd.prog 79 #[.pointer (some ⟨b, 0, none⟩), .agg #[.int .i32 l], .string ⟨#[95, 95, 115, 112, 114, 101, 97, 100, 80, 114, 111, 112, 115]⟩, .slice (some ar) 2 2] W' (CP1 b s m l (.slice (some ar) 2 2) W') from fun ar W' hW' => callR1 b s m l ar W' (HPV.out.below hW'))
                have n4s : w.heap.size ≠ s := by omega
                have nXs : X ≠ s := by omega
                have nes : eo ≠ s := HI.out.pr.sne HI.out.obj (by decide)
                have H4V := Lib.hid HL.out.a4
                have H6V := Lib.hid HL.out.a6
                have HOV := Lib.hid ho
                clear stX ho
                go_wp2_with fail
                refine wp_region_held_drew (S := fun w' => w'.cell? ⟨w.heap.size, 0, none⟩ = some (.int .i32 l) ∧ w'.cell? ⟨eo, 3, none⟩ = some (.bool sl) ∧ w'.cell? ⟨eo, 2, none⟩ = some (.int .i32 0)) (by kernel_rfl) ⟨c4, e3, e2⟩ (fun hHeld => ?_)
                refine wpAnyH_take (i := 0) (oi := _) (v := ?_) rfl (by kernel_rfl) (by kernel_rfl) (by kernel_rfl) (fun _ _ _ h => h) (Or.inl ⟨by rfl, ?_⟩) (by assumption) ?_
                rotate_left
                · (intro w hSw; (try dsimp only at hSw); go_simp; try (with_reducible rfl))
                try simp only [Act.put, List.setIfInBounds_toArray, List.set_cons_zero, List.set_cons_succ]
                refine wpAnyH_take (i := 1) (oi := _) (v := ?_) rfl (by kernel_rfl) (by kernel_rfl) (by kernel_rfl) (fun _ _ _ h => h) (Or.inl ⟨by rfl, ?_⟩) (by assumption) ?_
                rotate_left
                · (intro w hSw; (try dsimp only at hSw); go_simp; try (with_reducible rfl))
                try simp only [Act.put, List.setIfInBounds_toArray, List.set_cons_zero, List.set_cons_succ]
                refine wpAnyH_take (i := 3) (oi := _) (v := ?_) rfl (by kernel_rfl) (by kernel_rfl) (by kernel_rfl) (fun _ _ _ h => h) (Or.inl ⟨by rfl, ?_⟩) (by assumption) ?_
                rotate_left
                · (intro w hSw; (try dsimp only at hSw); go_simp; try (with_reducible rfl))
                try simp only [Act.put, List.setIfInBounds_toArray, List.set_cons_zero, List.set_cons_succ]
                refine wpAnyH_take (i := 4) (oi := _) (v := ?_) rfl (by kernel_rfl) (by kernel_rfl) (by kernel_rfl) (fun _ _ _ h => h) (Or.inl ⟨by rfl, ?_⟩) (by assumption) ?_
                rotate_left
                · (intro w hSw; (try dsimp only at hSw); go_simp; try (with_reducible rfl))
                try simp only [Act.put, List.setIfInBounds_toArray, List.set_cons_zero, List.set_cons_succ]
                refine wpAnyH_take (i := 5) (oi := _) (v := ?_) rfl (by kernel_rfl) (by kernel_rfl) (by kernel_rfl) (fun _ _ _ h => h) (Or.inl ⟨by rfl, ?_⟩) (by assumption) ?_
                rotate_left
                · (intro w hSw; (try dsimp only at hSw); go_simp; try (with_reducible rfl))
                try simp only [Act.put, List.setIfInBounds_toArray, List.set_cons_zero, List.set_cons_succ]
                refine wpAnyH_take (i := 6) (oi := _) (v := ?_) rfl (by kernel_rfl) (by kernel_rfl) (by kernel_rfl) (fun _ _ _ h => h) (Or.inl ⟨by rfl, ?_⟩) (by assumption) ?_
                rotate_left
                · (intro w hSw; (try dsimp only at hSw); go_simp; try (with_reducible rfl))
                try simp only [Act.put, List.setIfInBounds_toArray, List.set_cons_zero, List.set_cons_succ]
                refine wpAnyH_take (i := 7) (oi := _) (v := ?_) rfl (by kernel_rfl) (by kernel_rfl) (by kernel_rfl) (fun _ _ _ h => h) (Or.inl ⟨by rfl, ?_⟩) (by assumption) ?_
                rotate_left
                · (intro w hSw; (try dsimp only at hSw); go_simp; try (with_reducible rfl))
                try simp only [Act.put, List.setIfInBounds_toArray, List.set_cons_zero, List.set_cons_succ]
                refine wpAnyH_take (i := 8) (oi := _) (v := ?_) rfl (by kernel_rfl) (by kernel_rfl) (by kernel_rfl) (fun _ _ _ h => h) (Or.inl ⟨by rfl, ?_⟩) (by assumption) ?_
                rotate_left
                · (intro w hSw; (try dsimp only at hSw); go_simp; try (with_reducible rfl))
                try simp only [Act.put, List.setIfInBounds_toArray, List.set_cons_zero, List.set_cons_succ]
                refine wpAnyH_take (i := 9) (oi := _) (v := ?_) rfl (by kernel_rfl) (by kernel_rfl) (by kernel_rfl) (fun _ _ _ h => h) (Or.inl ⟨by rfl, ?_⟩) (by assumption) ?_
                rotate_left
                · (intro w hSw; (try dsimp only at hSw); go_simp; try (with_reducible rfl))
                try simp only [Act.put, List.setIfInBounds_toArray, List.set_cons_zero, List.set_cons_succ]
                refine wpAnyH_take (i := 10) (oi := _) (v := ?_) rfl (by kernel_rfl) (by kernel_rfl) (by kernel_rfl) (fun _ _ _ h => h) (Or.inl ⟨by rfl, ?_⟩) (by assumption) ?_
                rotate_left
                · (intro w hSw; (try dsimp only at hSw); go_simp; try (with_reducible rfl))
                try simp only [Act.put, List.setIfInBounds_toArray, List.set_cons_zero, List.set_cons_succ]
                refine wpAnyH_take (i := 11) (oi := _) (v := ?_) rfl (by kernel_rfl) (by kernel_rfl) (by kernel_rfl) (fun _ _ _ h => h) (Or.inl ⟨by rfl, ?_⟩) (by assumption) ?_
                rotate_left
                · (intro w hSw; (try dsimp only at hSw); go_simp; try (with_reducible rfl))
                try simp only [Act.put, List.setIfInBounds_toArray, List.set_cons_zero, List.set_cons_succ]
                refine wpAnyH_take (i := 12) (oi := _) (v := ?_) rfl (by kernel_rfl) (by kernel_rfl) (by kernel_rfl) (fun _ _ _ h => h) (Or.inl ⟨by rfl, ?_⟩) (by assumption) ?_
                rotate_left
                · (intro w hSw; (try dsimp only at hSw); go_simp; try (with_reducible rfl))
                try simp only [Act.put, List.setIfInBounds_toArray, List.set_cons_zero, List.set_cons_succ]
                refine wpAnyH_take (i := 13) (oi := _) (v := ?_) rfl (by kernel_rfl) (by kernel_rfl) (by kernel_rfl) (fun _ _ _ h => h) (Or.inl ⟨by rfl, ?_⟩) (by assumption) ?_
                rotate_left
                · (intro w hSw; (try dsimp only at hSw); go_simp; try (with_reducible rfl))
                try simp only [Act.put, List.setIfInBounds_toArray, List.set_cons_zero, List.set_cons_succ]
                refine wpAnyH_ready (rs := [2, 14]) (by kernel_rfl) (by simp) ?_
                refine AllReadyH.cons (o := _) rfl (fun K hK => ?_) (AllReadyH.cons (o := _) rfl (fun K hK => ?_) AllReadyH.nil)
                · go_simp
                  refine hK.out _ _ ?_ (fun hHeld => ?_)
                  · ((try dsimp only); repeat' (first | (refine And.intro ?_ ?_) | with_reducible assumption | apply kAlloc | apply kDrew | (refine kSet ?_ (by omega))))
                  clear hK K
                  try simp only [Act.put, List.setIfInBounds_toArray, List.set_cons_zero, List.set_cons_succ]
                  refine wpAnyH_ready (rs := [14]) (by kernel_rfl) (by simp) ?_
                  refine AllReadyH.cons (o := _) rfl (fun K hK => ?_) AllReadyH.nil
                  go_simp
                  refine hK.out _ _ ?_ (fun hHeld => ?_)
                  · ((try dsimp only); repeat' (first | (refine And.intro ?_ ?_) | with_reducible assumption | apply kAlloc | apply kDrew | (refine kSet ?_ (by omega))))
                  clear hK K
                  try simp only [Act.put, List.setIfInBounds_toArray, List.set_cons_zero, List.set_cons_succ]
                  refine wpAnyH_take (i := 15) (oi := _) (v := ?_) rfl (by kernel_rfl) (by kernel_rfl) (by kernel_rfl) (fun _ _ _ h => h) (Or.inl ⟨by rfl, ?_⟩) (by assumption) ?_
                  rotate_left
                  · (intro w hSw; (try dsimp only at hSw); go_simp; try (with_reducible rfl))
                  try simp only [Act.put, List.setIfInBounds_toArray, List.set_cons_zero, List.set_cons_succ]
                  refine wpAnyH_take (i := 16) (oi := _) (v := ?_) rfl (by kernel_rfl) (by kernel_rfl) (by kernel_rfl) (fun _ _ _ h => h) (Or.inl ⟨by rfl, ?_⟩) (by assumption) ?_
                  rotate_left
                  · (intro w hSw; (try dsimp only at hSw); go_simp; try (with_reducible rfl))
                  try simp only [Act.put, List.setIfInBounds_toArray, List.set_cons_zero, List.set_cons_succ]
                  refine wpAnyH_ready (rs := [17]) (by kernel_rfl) (by simp) ?_
                  refine AllReadyH.cons (o := _) rfl (fun K hK => ?_) AllReadyH.nil
                  go_simp
                  refine hK.out _ _ ?_ (fun hHeld => ?_)
                  · ((try dsimp only); repeat' (first | (refine And.intro ?_ ?_) | with_reducible assumption | apply kAlloc | apply kDrew | (refine kSet ?_ (by omega))))
                  clear hK K
                  try simp only [Act.put, List.setIfInBounds_toArray, List.set_cons_zero, List.set_cons_succ]
                  refine wpAnyH_ready (rs := [18]) (by kernel_rfl) (by simp) ?_
                  refine AllReadyH.cons (o := _) rfl (fun K hK => ?_) AllReadyH.nil
                  go_simp
                  go_at_call 79
                  refine Calls.mono (HV.out _ _ (by repeat (first | with_reducible exact Below.refl _ _ | (with_reducible refine Below.drew ?_) | (with_reducible refine Below.alloc ?_ (by simp; try omega) _) | (with_reducible refine Below.setCell ?_ (by simp; try omega) _)))) ?_
                  rintro e' Y ⟨e0, i, rfl, hA0, hAi, hp1, hfr, hs0, hsi⟩
                  have KY : Fr s wq Y := (Fr.of_below (by repeat (first | with_reducible exact Below.refl _ _ | (with_reducible refine Below.drew ?_) | (with_reducible refine Below.alloc ?_ (by simp; try omega) _) | (with_reducible refine Below.setCell ?_ (by simp; try omega) _)))).trans hfr
                  have AY := HXV.out.fr KY nXs
                  have B4 := H4V.out.fr KY n4s
                  have y4 : Y.cell? ⟨w.heap.size, 0, none⟩ = some (.int .i32 l) := by rw [B4.cell]; rfl
                  have yx0 : Y.cell? ⟨X, 0, none⟩ = some (.iface T (.pointer (some ⟨e, 0, none⟩))) := by rw [AY.cell]; rfl
                  have yx1 : Y.cell? ⟨X, 1, none⟩ = some (.int .i32 l) := by rw [AY.cell]; rfl
                  have ye3 := KY.cell nes e3
                  have ye2 := KY.cell nes e2
                  have f0 := AY.frozen 0
                  have f1 := AY.frozen 1
                  have lY := AY.lt
                  have lY4 := B4.lt
                  have zY := KY.size
                  refine hK.out _ _ ?_ (fun hHeld => ?_)
                  · ((try dsimp only); repeat' (first | (refine And.intro ?_ ?_) | with_reducible assumption | apply kAlloc | apply kDrew | (refine kSet ?_ (by omega))))
                  clear hK K
                  try simp only [Act.put, List.setIfInBounds_toArray, List.set_cons_zero, List.set_cons_succ]
                  refine wpAnyH_ready (rs := [19]) (by kernel_rfl) (by simp) ?_
                  refine AllReadyH.cons (o := _) rfl (fun K hK => ?_) AllReadyH.nil
                  go_simp
                  refine hK.out _ _ ?_ (fun hHeld => ?_)
                  · ((try dsimp only); repeat' (first | (refine And.intro ?_ ?_) | with_reducible assumption | apply kAlloc | apply kDrew | (refine kSet ?_ (by omega))))
                  clear hK K
                  try simp only [Act.put, List.setIfInBounds_toArray, List.set_cons_zero, List.set_cons_succ]
                  refine wpAnyH_done (by kernel_rfl) ?_ _
                  have aOB := (show At (((wq.alloc (.cells #[.slice va n vc, .int .i32 0, .int .i32 0, .bool sl, .bool false] 71)).alloc (.cells #[.iface T (.pointer (some ⟨e, 0, none⟩)), .int .i32 l, .iface 59 (.pointer (some ⟨wq.heap.size, 0, none⟩)), .int .i32 l] 35)).drew) wq.heap.size 71 #[.slice va n vc, .int .i32 0, .int .i32 0, .bool sl, .bool false] from ((At.new wq 71 _).alloc _).drew).fr hfr (by have := HPV.out.lt.2.2; omega)
                  have aAR := (show At (((wq.alloc (.cells #[.slice va n vc, .int .i32 0, .int .i32 0, .bool sl, .bool false] 71)).alloc (.cells #[.iface T (.pointer (some ⟨e, 0, none⟩)), .int .i32 l, .iface 59 (.pointer (some ⟨wq.heap.size, 0, none⟩)), .int .i32 l] 35)).drew) (wq.heap.size + 1) 35 #[.iface T (.pointer (some ⟨e, 0, none⟩)), .int .i32 l, .iface 59 (.pointer (some ⟨wq.heap.size, 0, none⟩)), .int .i32 l] from by
                    have := At.new (wq.alloc (.cells #[.slice va n vc, .int .i32 0, .int .i32 0, .bool sl, .bool false] 71)) 35 #[.iface T (.pointer (some ⟨e, 0, none⟩)), .int .i32 l, .iface 59 (.pointer (some ⟨wq.heap.size, 0, none⟩)), .int .i32 l]
                    rw [show (wq.alloc (.cells #[.slice va n vc, .int .i32 0, .int .i32 0, .bool sl, .bool false] 71)).heap.size = wq.heap.size + 1 from by simp] at this
                    exact this.drew).fr hfr (by have := HPV.out.lt.2.2; omega)
                  simp at hs0 hsi
                  have B6 := H6V.out.fr KY (by omega)
                  have c60 : Y.cell? ⟨w.heap.size + 1, 0, none⟩ = some .nilIface := by rw [B6.cell]; rfl
                  have c61 : Y.cell? ⟨w.heap.size + 1, 1, none⟩ = some (.int .i32 0) := by rw [B6.cell]; rfl
                  have f60 := B6.frozen 0
                  have f61 := B6.frozen 1
                  have l6 := B6.lt
                  have nX6 : ¬ X = w.heap.size + 1 := by omega
                  have nX6' : ¬ w.heap.size + 1 = X := by omega
                  have HFIN := Lib.hid (show LSP k sl q sp l s w (.returned (.agg #[.iface 312 (.pointer (some ⟨e0, 0, none⟩)), .int .i32 l])) ((((Y.setCell ⟨X, 0, none⟩ (.iface 312 (.pointer (some ⟨e0, 0, none⟩)))).setCell ⟨X, 1, none⟩ (.int .i32 l)).setCell ⟨w.heap.size + 1, 0, none⟩ (.iface 312 (.pointer (some ⟨e0, 0, none⟩)))).setCell ⟨w.heap.size + 1, 1, none⟩ (.int .i32 l)) from by
                    have farU : ∀ x, X < x → ((((Y.setCell ⟨X, 0, none⟩ (.iface 312 (.pointer (some ⟨e0, 0, none⟩)))).setCell ⟨X, 1, none⟩ (.int .i32 l)).setCell ⟨w.heap.size + 1, 0, none⟩ (.iface 312 (.pointer (some ⟨e0, 0, none⟩)))).setCell ⟨w.heap.size + 1, 1, none⟩ (.int .i32 l)).heap[x]? = Y.heap[x]? := fun x hx => by
                      rw [Below.heap_setCell _ _ _ x (by simp; omega), Below.heap_setCell _ _ _ x (by simp; omega), Below.heap_setCell _ _ _ x (by simp; omega), Below.heap_setCell _ _ _ x (by simp; omega)]
                    have keepU : ∀ {g : Nat} {t : TypeId} {cs : Array Value}, At Y g t cs → X < g → At ((((Y.setCell ⟨X, 0, none⟩ (.iface 312 (.pointer (some ⟨e0, 0, none⟩)))).setCell ⟨X, 1, none⟩ (.int .i32 l)).setCell ⟨w.heap.size + 1, 0, none⟩ (.iface 312 (.pointer (some ⟨e0, 0, none⟩)))).setCell ⟨w.heap.size + 1, 1, none⟩ (.int .i32 l)) g t cs := fun h1 h2 => (farU _ h2).trans h1
                    have hBw := HL.out.wB
                    have hXB := HL.out.XB
                    refine ⟨312, e0, Dom X Y.heap.size, rfl, ?_, ((((HL.out.fr.trans KY).set (by omega) 0 _).set (by omega) 1 _).set (by omega) 0 _).set (by omega) 1 _, fun x hx => by have := hx.1; omega⟩
                    refine .props e0 t k T e wq.heap.size i (wq.heap.size + 1) ⟨et, etk⟩ ETP.out HL.out.run ⟨⟨by omega, hA0.lt⟩, ⟨by omega, hAi.lt⟩, ⟨by omega, aAR.lt⟩⟩ ⟨⟨l, keepU hA0 (by omega)⟩, keepU hAi (by omega), keepU aAR (by omega)⟩ ⟨⟨by omega, aOB.lt⟩, _, _, _, _, keepU aOB (by omega), ?_, ?_⟩ ?_
                    · exact ownKeep0 (ownLow HOV.out (Nat.zero_le B)) (fun x cs hx hat => by
                        have hxB : B ≤ x := by
                          obtain ⟨_, ⟨h, _⟩ | ⟨g', cap, cur, h1, h2, h3, _⟩⟩ := HOV.out
                          · rw [h] at hx; cases hx
                          · rw [h1] at hx
                            simp only [Value.ownBlock, Option.some.injEq] at hx
                            omega
                        exact (keepU (hat.fr KY (HPV.out.sne hat (by decide))) (by omega)).trans hat.symm)
                    · intro x hx
                      obtain ⟨_, ⟨h, _⟩ | ⟨g', cap, cur, h1, h2, h3, _⟩⟩ := HOV.out
                      · rw [h] at hx; cases hx
                      · rw [h1] at hx
                        simp only [Value.ownBlock, Option.some.injEq] at hx
                        subst hx
                        exact ⟨by omega, by have := (show At wq g' 231 cur from h3).lt; omega⟩
                    · exact HCH.out.fr (SYof HPV.out) (fun x hx hxs => (farU x hx.1).trans (KY.2 x (by have := hx.2; omega) hxs)) (fun x hx => ⟨hx.1, by have := hx.2; omega⟩))
                  clear hA0 hAi hp1 hfr hs0 hsi KY AY B4 aOB aAR B6
                  go_wp2_with fail
                  exact bodyPost_ret (v := .agg #[.iface 312 (.pointer (some ⟨e0, 0, none⟩)), .int .i32 l]) (by simp [results, Tryd.results56, go_sem, *]) rfl HFIN.out
                · go_simp
                  refine hK.out _ _ ?_ (fun hHeld => ?_)
                  · ((try dsimp only); repeat' (first | (refine And.intro ?_ ?_) | with_reducible assumption | apply kAlloc | apply kDrew | (refine kSet ?_ (by omega))))
                  clear hK K
                  try simp only [Act.put, List.setIfInBounds_toArray, List.set_cons_zero, List.set_cons_succ]
                  refine wpAnyH_take (i := 15) (oi := _) (v := ?_) rfl (by kernel_rfl) (by kernel_rfl) (by kernel_rfl) (fun _ _ _ h => h) (Or.inl ⟨by rfl, ?_⟩) (by assumption) ?_
                  rotate_left
                  · (intro w hSw; (try dsimp only at hSw); go_simp; try (with_reducible rfl))
                  try simp only [Act.put, List.setIfInBounds_toArray, List.set_cons_zero, List.set_cons_succ]
                  refine wpAnyH_take (i := 16) (oi := _) (v := ?_) rfl (by kernel_rfl) (by kernel_rfl) (by kernel_rfl) (fun _ _ _ h => h) (Or.inl ⟨by rfl, ?_⟩) (by assumption) ?_
                  rotate_left
                  · (intro w hSw; (try dsimp only at hSw); go_simp; try (with_reducible rfl))
                  try simp only [Act.put, List.setIfInBounds_toArray, List.set_cons_zero, List.set_cons_succ]
                  refine wpAnyH_ready (rs := [2]) (by kernel_rfl) (by simp) ?_
                  refine AllReadyH.cons (o := _) rfl (fun K hK => ?_) AllReadyH.nil
                  go_simp
                  refine hK.out _ _ ?_ (fun hHeld => ?_)
                  · ((try dsimp only); repeat' (first | (refine And.intro ?_ ?_) | with_reducible assumption | apply kAlloc | apply kDrew | (refine kSet ?_ (by omega))))
                  clear hK K
                  try simp only [Act.put, List.setIfInBounds_toArray, List.set_cons_zero, List.set_cons_succ]
                  refine wpAnyH_ready (rs := [17]) (by kernel_rfl) (by simp) ?_
                  refine AllReadyH.cons (o := _) rfl (fun K hK => ?_) AllReadyH.nil
                  go_simp
                  refine hK.out _ _ ?_ (fun hHeld => ?_)
                  · ((try dsimp only); repeat' (first | (refine And.intro ?_ ?_) | with_reducible assumption | apply kAlloc | apply kDrew | (refine kSet ?_ (by omega))))
                  clear hK K
                  try simp only [Act.put, List.setIfInBounds_toArray, List.set_cons_zero, List.set_cons_succ]
                  refine wpAnyH_ready (rs := [18]) (by kernel_rfl) (by simp) ?_
                  refine AllReadyH.cons (o := _) rfl (fun K hK => ?_) AllReadyH.nil
                  go_simp
                  go_at_call 79
                  refine Calls.mono (HV.out _ _ (by repeat (first | with_reducible exact Below.refl _ _ | (with_reducible refine Below.drew ?_) | (with_reducible refine Below.alloc ?_ (by simp; try omega) _) | (with_reducible refine Below.setCell ?_ (by simp; try omega) _)))) ?_
                  rintro e' Y ⟨e0, i, rfl, hA0, hAi, hp1, hfr, hs0, hsi⟩
                  have KY : Fr s wq Y := (Fr.of_below (by repeat (first | with_reducible exact Below.refl _ _ | (with_reducible refine Below.drew ?_) | (with_reducible refine Below.alloc ?_ (by simp; try omega) _) | (with_reducible refine Below.setCell ?_ (by simp; try omega) _)))).trans hfr
                  have AY := HXV.out.fr KY nXs
                  have B4 := H4V.out.fr KY n4s
                  have y4 : Y.cell? ⟨w.heap.size, 0, none⟩ = some (.int .i32 l) := by rw [B4.cell]; rfl
                  have yx0 : Y.cell? ⟨X, 0, none⟩ = some (.iface T (.pointer (some ⟨e, 0, none⟩))) := by rw [AY.cell]; rfl
                  have yx1 : Y.cell? ⟨X, 1, none⟩ = some (.int .i32 l) := by rw [AY.cell]; rfl
                  have ye3 := KY.cell nes e3
                  have ye2 := KY.cell nes e2
                  have f0 := AY.frozen 0
                  have f1 := AY.frozen 1
                  have lY := AY.lt
                  have lY4 := B4.lt
                  have zY := KY.size
                  refine hK.out _ _ ?_ (fun hHeld => ?_)
                  · ((try dsimp only); repeat' (first | (refine And.intro ?_ ?_) | with_reducible assumption | apply kAlloc | apply kDrew | (refine kSet ?_ (by omega))))
                  clear hK K
                  try simp only [Act.put, List.setIfInBounds_toArray, List.set_cons_zero, List.set_cons_succ]
                  refine wpAnyH_ready (rs := [19]) (by kernel_rfl) (by simp) ?_
                  refine AllReadyH.cons (o := _) rfl (fun K hK => ?_) AllReadyH.nil
                  go_simp
                  refine hK.out _ _ ?_ (fun hHeld => ?_)
                  · ((try dsimp only); repeat' (first | (refine And.intro ?_ ?_) | with_reducible assumption | apply kAlloc | apply kDrew | (refine kSet ?_ (by omega))))
                  clear hK K
                  try simp only [Act.put, List.setIfInBounds_toArray, List.set_cons_zero, List.set_cons_succ]
                  refine wpAnyH_done (by kernel_rfl) ?_ _
                  have aOB := (show At (((wq.alloc (.cells #[.slice va n vc, .int .i32 0, .int .i32 0, .bool sl, .bool false] 71)).alloc (.cells #[.iface T (.pointer (some ⟨e, 0, none⟩)), .int .i32 l, .iface 59 (.pointer (some ⟨wq.heap.size, 0, none⟩)), .int .i32 l] 35)).drew) wq.heap.size 71 #[.slice va n vc, .int .i32 0, .int .i32 0, .bool sl, .bool false] from ((At.new wq 71 _).alloc _).drew).fr hfr (by have := HPV.out.lt.2.2; omega)
                  have aAR := (show At (((wq.alloc (.cells #[.slice va n vc, .int .i32 0, .int .i32 0, .bool sl, .bool false] 71)).alloc (.cells #[.iface T (.pointer (some ⟨e, 0, none⟩)), .int .i32 l, .iface 59 (.pointer (some ⟨wq.heap.size, 0, none⟩)), .int .i32 l] 35)).drew) (wq.heap.size + 1) 35 #[.iface T (.pointer (some ⟨e, 0, none⟩)), .int .i32 l, .iface 59 (.pointer (some ⟨wq.heap.size, 0, none⟩)), .int .i32 l] from by
                    have := At.new (wq.alloc (.cells #[.slice va n vc, .int .i32 0, .int .i32 0, .bool sl, .bool false] 71)) 35 #[.iface T (.pointer (some ⟨e, 0, none⟩)), .int .i32 l, .iface 59 (.pointer (some ⟨wq.heap.size, 0, none⟩)), .int .i32 l]
                    rw [show (wq.alloc (.cells #[.slice va n vc, .int .i32 0, .int .i32 0, .bool sl, .bool false] 71)).heap.size = wq.heap.size + 1 from by simp] at this
                    exact this.drew).fr hfr (by have := HPV.out.lt.2.2; omega)
                  simp at hs0 hsi
                  have B6 := H6V.out.fr KY (by omega)
                  have c60 : Y.cell? ⟨w.heap.size + 1, 0, none⟩ = some .nilIface := by rw [B6.cell]; rfl
                  have c61 : Y.cell? ⟨w.heap.size + 1, 1, none⟩ = some (.int .i32 0) := by rw [B6.cell]; rfl
                  have f60 := B6.frozen 0
                  have f61 := B6.frozen 1
                  have l6 := B6.lt
                  have nX6 : ¬ X = w.heap.size + 1 := by omega
                  have nX6' : ¬ w.heap.size + 1 = X := by omega
                  have HFIN := Lib.hid (show LSP k sl q sp l s w (.returned (.agg #[.iface 312 (.pointer (some ⟨e0, 0, none⟩)), .int .i32 l])) ((((Y.setCell ⟨X, 0, none⟩ (.iface 312 (.pointer (some ⟨e0, 0, none⟩)))).setCell ⟨X, 1, none⟩ (.int .i32 l)).setCell ⟨w.heap.size + 1, 0, none⟩ (.iface 312 (.pointer (some ⟨e0, 0, none⟩)))).setCell ⟨w.heap.size + 1, 1, none⟩ (.int .i32 l)) from by
                    have farU : ∀ x, X < x → ((((Y.setCell ⟨X, 0, none⟩ (.iface 312 (.pointer (some ⟨e0, 0, none⟩)))).setCell ⟨X, 1, none⟩ (.int .i32 l)).setCell ⟨w.heap.size + 1, 0, none⟩ (.iface 312 (.pointer (some ⟨e0, 0, none⟩)))).setCell ⟨w.heap.size + 1, 1, none⟩ (.int .i32 l)).heap[x]? = Y.heap[x]? := fun x hx => by
                      rw [Below.heap_setCell _ _ _ x (by simp; omega), Below.heap_setCell _ _ _ x (by simp; omega), Below.heap_setCell _ _ _ x (by simp; omega), Below.heap_setCell _ _ _ x (by simp; omega)]
                    have keepU : ∀ {g : Nat} {t : TypeId} {cs : Array Value}, At Y g t cs → X < g → At ((((Y.setCell ⟨X, 0, none⟩ (.iface 312 (.pointer (some ⟨e0, 0, none⟩)))).setCell ⟨X, 1, none⟩ (.int .i32 l)).setCell ⟨w.heap.size + 1, 0, none⟩ (.iface 312 (.pointer (some ⟨e0, 0, none⟩)))).setCell ⟨w.heap.size + 1, 1, none⟩ (.int .i32 l)) g t cs := fun h1 h2 => (farU _ h2).trans h1
                    have hBw := HL.out.wB
                    have hXB := HL.out.XB
                    refine ⟨312, e0, Dom X Y.heap.size, rfl, ?_, ((((HL.out.fr.trans KY).set (by omega) 0 _).set (by omega) 1 _).set (by omega) 0 _).set (by omega) 1 _, fun x hx => by have := hx.1; omega⟩
                    refine .props e0 t k T e wq.heap.size i (wq.heap.size + 1) ⟨et, etk⟩ ETP.out HL.out.run ⟨⟨by omega, hA0.lt⟩, ⟨by omega, hAi.lt⟩, ⟨by omega, aAR.lt⟩⟩ ⟨⟨l, keepU hA0 (by omega)⟩, keepU hAi (by omega), keepU aAR (by omega)⟩ ⟨⟨by omega, aOB.lt⟩, _, _, _, _, keepU aOB (by omega), ?_, ?_⟩ ?_
                    · exact ownKeep0 (ownLow HOV.out (Nat.zero_le B)) (fun x cs hx hat => by
                        have hxB : B ≤ x := by
                          obtain ⟨_, ⟨h, _⟩ | ⟨g', cap, cur, h1, h2, h3, _⟩⟩ := HOV.out
                          · rw [h] at hx; cases hx
                          · rw [h1] at hx
                            simp only [Value.ownBlock, Option.some.injEq] at hx
                            omega
                        exact (keepU (hat.fr KY (HPV.out.sne hat (by decide))) (by omega)).trans hat.symm)
                    · intro x hx
                      obtain ⟨_, ⟨h, _⟩ | ⟨g', cap, cur, h1, h2, h3, _⟩⟩ := HOV.out
                      · rw [h] at hx; cases hx
                      · rw [h1] at hx
                        simp only [Value.ownBlock, Option.some.injEq] at hx
                        subst hx
                        exact ⟨by omega, by have := (show At wq g' 231 cur from h3).lt; omega⟩
                    · exact HCH.out.fr (SYof HPV.out) (fun x hx hxs => (farU x hx.1).trans (KY.2 x (by have := hx.2; omega) hxs)) (fun x hx => ⟨hx.1, by have := hx.2; omega⟩))
                  clear hA0 hAi hp1 hfr hs0 hsi KY AY B4 aOB aAR B6
                  go_wp2_with fail
                  exact bodyPost_ret (v := .agg #[.iface 312 (.pointer (some ⟨e0, 0, none⟩)), .int .i32 l]) (by simp [results, Tryd.results56, go_sem, *]) rfl HFIN.out
    · exfalso
      obtain ⟨j, hj, hj'⟩ := HSP.out
      have := HNS.out j (by omega)
      rw [this] at hj'
      cases hj'
end Go.Proofs.YtjlmaingeobgeaaDoor
