/- Proved here: the contract of the new parser. Conditions as stated. -/
import Derived.Test.YtjlmaingeobgeaaDoorBase
import Derived.WalkKit
import Derived.WalkSpells
import Derived.WalkLawsBesides
import Derived.Lib.Hide
import Derived.Lib.SliceRun
import Derived.Deep.RegionWith
import Derived.OwnWalk
import Derived.Laws.OwnMore
import Derived.Carry
import Derived.WideMake
import Derived.MapKept
namespace Go.Proofs.YtjlmaingeobgeaaDoor
open Go.RowKit
set_option linter.unusedSimpArgs false
set_option linter.unusedVariables false

/-- Every block but s is as it was. -/
def Fr (s : Nat) (W w : World) : Prop := Below 0 W w ∧ ∀ k, k < W.heap.size → k ≠ s → w.heap[k]? = W.heap[k]?
theorem Fr.refl (s : Nat) (W : World) : Fr s W W := ⟨Below.refl _ _, fun _ _ _ => rfl⟩
theorem Fr.size {s : Nat} {W w : World} (h : Fr s W w) : W.heap.size ≤ w.heap.size := h.1.size
theorem Fr.trans {s : Nat} {a b c : World} (h1 : Fr s a b) (h2 : Fr s b c) : Fr s a c := ⟨h1.1.trans h2.1, fun k hk hs => (h2.2 k (Nat.lt_of_lt_of_le hk h1.size) hs).trans (h1.2 k hk hs)⟩
theorem Fr.of_below {s : Nat} {a b : World} (h : Below a.heap.size a b) : Fr s a b := ⟨h.mono (Nat.zero_le _), fun k hk _ => h.block k hk⟩
theorem Fr.alloc {s : Nat} {a b : World} (h : Fr s a b) (o : Obj) : Fr s a (b.alloc o) := h.trans (Fr.of_below ((Below.refl _ _).alloc (Nat.le_refl _) _))
theorem Fr.drew {s : Nat} {a b : World} (h : Fr s a b) : Fr s a b.drew := ⟨h.1.drew, h.2⟩
theorem Fr.drewN {s : Nat} {a b : World} (h : Fr s a b) (n : Nat) : Fr s a (b.drewN n) := ⟨below_drewN h.1 n, h.2⟩
theorem Fr.undrew {s : Nat} {a b : World} (h : Fr s a.drew b) : Fr s a b := ⟨⟨h.1.os, h.1.tape, h.1.output, h.1.size, h.1.block⟩, h.2⟩
theorem Fr.set {s : Nat} {a b : World} (h : Fr s a b) {q : Nat} (hq : a.heap.size ≤ q) (i : Nat) (v : Value) : Fr s a (b.setCell ⟨q, i, none⟩ v) := ⟨h.1.setCell (Nat.zero_le _) _, fun k hk hs => (Below.heap_setCell _ _ _ k (by simp; omega)).trans (h.2 k hk hs)⟩
theorem Fr.setS {s : Nat} {a b : World} (h : Fr s a b) (i : Nat) (v : Value) : Fr s a (b.setCell ⟨s, i, none⟩ v) := ⟨h.1.setCell (Nat.zero_le _) _, fun k hk hs => (Below.heap_setCell _ _ _ k (by simp; omega)).trans (h.2 k hk hs)⟩
theorem Fr.below {s B : Nat} {a b : World} (h : Fr s a b) (hs : B ≤ s) (hB : B ≤ a.heap.size) : Below B a b := ⟨h.1.os, h.1.tape, h.1.output, h.1.size, fun k hk => h.2 k (by omega) (by omega)⟩
theorem Fr.cell {s : Nat} {a b : World} (h : Fr s a b) {k i : Nat} {v : Value} (hs : k ≠ s) (hc : a.cell? ⟨k, i, none⟩ = some v) : b.cell? ⟨k, i, none⟩ = some v := (World.cell?_of_block (a := ⟨k, i, none⟩) (h.2 k (World.block_lt_of_cell? _ _ hc) hs)).trans hc
theorem At.fr {w w' : World} {s g : Nat} {t : TypeId} {cs : Array Value} (h : At w g t cs) (hf : Fr s w w') (hs : g ≠ s) : At w' g t cs := (hf.2 g h.lt hs).trans h
theorem atNe {w : World} {a b : Nat} {t t' : TypeId} {cs cs' : Array Value} (h : At w a t cs) (h' : At w b t' cs') (ht : t ≠ t') : a ≠ b := by
  intro e
  subst e
  unfold At at h h'
  rw [h] at h'
  simp only [Option.some.injEq, Obj.cells.injEq] at h'
  exact ht h'.2.1
def es4 : Array MapEntry := #[⟨.string ⟨#[95, 95, 115, 112, 114, 101, 97, 100, 86, 97, 108, 117, 101, 115]⟩, .agg #[.int .i32 0, .int .u32 0, .int .u32 0], 0⟩, ⟨.string ⟨#[95, 95, 115, 112, 114, 101, 97, 100, 80, 114, 111, 112, 115]⟩, .agg #[.int .i32 0, .int .u32 0, .int .u32 1], 1⟩, ⟨.string ⟨#[95, 95, 97, 119, 97, 105, 116]⟩, .agg #[.int .i32 0, .int .u32 0, .int .u32 2], 2⟩, ⟨.string ⟨#[95, 95, 102, 111, 114, 65, 119, 97, 105, 116]⟩, .agg #[.int .i32 0, .int .u32 0, .int .u32 3], 3⟩]
/-- The symbols' block. -/
def SY (w : World) (s : Nat) : Prop := ∃ (cs : Array Value) (u0 u1 : Int), At w s 355 cs ∧ cs.size = 40 ∧ cs[4]? = some (.int .u32 u0) ∧ cs[14]? = some (.int .u32 u1)
/-- The parser's cells that a call reads. -/
def PC (w : World) (b m s : Nat) : Prop := w.cell? ⟨b, 106, none⟩ = some (.slice (some ⟨s, 0, none⟩) 4 4) ∧ w.cell? ⟨b, 117, none⟩ = some (.map (some m)) ∧ w.cell? ⟨b, 350, none⟩ = some (.bool false) ∧ w.cell? ⟨b, 105, none⟩ = some (.pointer none) ∧ w.cell? ⟨b, 32, none⟩ = some (.bool false) ∧ b ≠ s
def PR (w : World) (b s m : Nat) : Prop := PC w b m s ∧ w.heap[m]? = some (.map es4 4) ∧ SY w s
theorem PC.block {w w' : World} {b m s : Nat} (h : PC w b m s) (hb : w'.heap[b]? = w.heap[b]?) : PC w' b m s := by
  have e : ∀ o, w'.cell? ⟨b, o, none⟩ = w.cell? ⟨b, o, none⟩ := fun o => World.cell?_of_block (a := ⟨b, o, none⟩) hb
  exact ⟨(e _).trans h.1, (e _).trans h.2.1, (e _).trans h.2.2.1, (e _).trans h.2.2.2.1, (e _).trans h.2.2.2.2.1, h.2.2.2.2.2⟩
theorem PC.lt {w : World} {b m s : Nat} (h : PC w b m s) : b < w.heap.size := World.block_lt_of_cell? _ _ h.1
theorem PR.ms {w : World} {b s m : Nat} (h : PR w b s m) : m ≠ s := by
  rintro rfl
  obtain ⟨_, h2, cs, _, _, h3, _⟩ := h
  unfold At at h3
  rw [h3] at h2
  cases h2
theorem PR.sne {w : World} {b s m : Nat} (h : PR w b s m) {g : Nat} {t : TypeId} {cs : Array Value} (hg : At w g t cs) (ht : t ≠ 355) : g ≠ s := by
  obtain ⟨_, _, cs, _, _, h3, _⟩ := h
  exact atNe hg h3 ht
theorem PR.blocks {w w' : World} {b s m : Nat} (h : PR w b s m) (hb : w'.heap[b]? = w.heap[b]?) (hm : w'.heap[m]? = w.heap[m]?) (hs : w'.heap[s]? = w.heap[s]?) : PR w' b s m := by
  obtain ⟨h1, h2, cs, u0, u1, h3, h4⟩ := h
  exact ⟨h1.block hb, hm.trans h2, cs, u0, u1, hs.trans h3, h4⟩
theorem PR.lt {w : World} {b s m : Nat} (h : PR w b s m) : b < w.heap.size ∧ m < w.heap.size ∧ s < w.heap.size := by
  obtain ⟨h1, h2, cs, u0, u1, h3, h4⟩ := h
  exact ⟨h1.lt, (Array.getElem?_eq_some_iff.1 h2).1, h3.lt⟩
theorem PR.below {w w' : World} {b s m : Nat} (h : PR w b s m) (hb : Below w.heap.size w w') : PR w' b s m := h.blocks (hb.block _ h.lt.1) (hb.block _ h.lt.2.1) (hb.block _ h.lt.2.2)
theorem PR.alloc {w : World} {b s m : Nat} (h : PR w b s m) (o : Obj) : PR (w.alloc o) b s m := h.below ((Below.refl _ _).alloc (Nat.le_refl _) _)
theorem PR.drew {w : World} {b s m : Nat} (h : PR w b s m) : PR w.drew b s m := h
theorem PR.set {w : World} {b s m : Nat} (h : PR w b s m) {q : Nat} (h1 : b ≠ q) (h2 : m ≠ q) (h3 : s ≠ q) (i : Nat) (v : Value) : PR (w.setCell ⟨q, i, none⟩ v) b s m :=
  h.blocks (Below.heap_setCell _ _ _ _ (by simpa using h1)) (Below.heap_setCell _ _ _ _ (by simpa using h2)) (Below.heap_setCell _ _ _ _ (by simpa using h3))
theorem SY.set {w : World} {s : Nat} (h : SY w s) (i : Nat) (v : Int) (hi : i = 4 ∨ i = 14) : SY (w.setCell ⟨s, i, none⟩ (.int .u32 v)) s := by
  obtain ⟨cs, u0, u1, h1, h2, h3, h4⟩ := h
  rcases hi with rfl | rfl
  · exact ⟨_, v, u1, h1.set 4 _, by simpa using h2, by rw [Array.getElem?_setIfInBounds_self_of_lt (by omega)], by rw [Array.getElem?_setIfInBounds_ne (by omega)]; exact h4⟩
  · exact ⟨_, u0, v, h1.set 14 _, by simpa using h2, by rw [Array.getElem?_setIfInBounds_ne (by omega)]; exact h3, by rw [Array.getElem?_setIfInBounds_self_of_lt (by omega)]⟩
theorem PR.setS {w : World} {b s m : Nat} (h : PR w b s m) (i : Nat) (v : Int) (hi : i = 4 ∨ i = 14) : PR (w.setCell ⟨s, i, none⟩ (.int .u32 v)) b s m := by
  have hms := h.ms
  obtain ⟨h1, h2, h3⟩ := h
  exact ⟨h1.block (Below.heap_setCell _ _ _ _ (by simpa using h1.2.2.2.2.2)), (Below.heap_setCell _ _ _ _ (by simpa using hms)).trans h2, h3.set i v hi⟩
def mput (w : World) (m : Nat) (o : Obj) : World := { w with heap := w.heap.setIfInBounds m o }
theorem mput_other (w : World) (m : Nat) (o : Obj) (k : Nat) (h : k ≠ m) : (mput w m o).heap[k]? = w.heap[k]? := by simp [mput, Ne.symm h]
theorem mput_size (w : World) (m : Nat) (o : Obj) : (mput w m o).heap.size = w.heap.size := by simp [mput]
theorem mput_same (w : World) (m : Nat) (o : Obj) (h : m < w.heap.size) : (mput w m o).heap[m]? = some o := by simp [mput, h]
theorem mput_below {B : Nat} {a w : World} (h : Below B a w) (m : Nat) (o : Obj) (hm : B ≤ m) : Below B a (mput w m o) := ⟨h.os, h.tape, h.output, by rw [mput_size]; exact h.size, fun k hk => (mput_other w m o k (by omega)).trans (h.block k hk)⟩
theorem mupd {w : World} {m clock : Nat} {e : Array MapEntry} (s : ByteArray) (v : Value) (hm : w.heap[m]? = some (.map e clock)) (hf : Instr.findNow .string (.string s) e.toList 0 = some none) :
    (Instr.mapUpdate 170 (.map (some m)) (.string s) v).run Tryd.prog w = .ok () (mput w m (.map (e.push ⟨.string s, v, clock⟩) (clock + 1))) := by
  have hc : (Instr.checkKey false 10000 9 (.string s)).run Tryd.prog w = .ok () w := MapKept.run_checkKey (k := .string s) Tryd.underlying9 (by simp [MapKept.IsKey]) false 9999
  simp [Instr.mapUpdate, run_underlying Tryd.underlying170, MapKept.run_getObj_map hm, hc, MapKept.run_findKey Tryd.underlying9 hf, MapKept.run_setObj_map _ hm, Result.andThen, mput]
theorem mlook {w : World} {m clock i : Nat} {e : Array MapEntry} {v : Value} (s : ByteArray) (hm : w.heap[m]? = some (.map e clock)) (hf : Instr.findNow .string (.string s) e.toList 0 = some (some (i, v))) :
    (Instr.lookup 170 (.map (some m)) (.string s) true).run Tryd.prog w = .ok (.tuple #[v, .bool true]) w := by
  have hc : ∀ c, (Instr.checkKey c 10000 9 (.string s)).run Tryd.prog w = .ok () w := fun c => MapKept.run_checkKey (k := .string s) Tryd.underlying9 (by simp [MapKept.IsKey]) c 9999
  simp [Instr.lookup, run_underlying Tryd.underlying170, MapKept.run_getObj_map hm, hc, MapKept.run_findKey Tryd.underlying9 hf, Result.andThen]

noncomputable def sz : Array Value := (zeroOf Tryd.prog 241).setIfInBounds 15 (.int .u8 6)
noncomputable def oz (F : Int) : Array Value := (zeroOf Tryd.prog 127).setIfInBounds 5 (.int .u64 F)
noncomputable def qz (F : Int) : Array Value := (zeroOf Tryd.prog 129).setIfInBounds 23 (.int .u64 F)
noncomputable def dz : Array Value := zeroOf Tryd.prog 208
noncomputable def yz : Array Value := madeCells (zeroOf Tryd.prog 355) 40
noncomputable def pz (F : Int) (y m c : Value) : Array Value := (((((zeroOf Tryd.prog 210).setIfInBounds 23 (.int .u64 F)).setIfInBounds 106 y).setIfInBounds 117 m).setIfInBounds 187 c).setIfInBounds 104 c
theorem pz_size (F : Int) (y m c : Value) : (pz F y m c).size = 353 := by kernel_rfl
attribute [local go_sem] pz_size
theorem info355 : (Tryd.prog.info? 355).map (fun i => (i.zero, i.size, i.bytes)) = some (some (.agg (zeroOf Tryd.prog 355)), 10, 48) := by kernel_rfl
theorem wpList_run0 {P : Program} {ops : Array Oper} {rest : List Oper} {o : Oper} {a : Act} {w : World} {Q : Exit → Act → World → Prop} (hgd : o.guard = none) (v : Value)
    (hr : (execOp a.eval o).run P w = .ok (.value v) w) (h : wpList P ops Q rest (a.put o.dst v) w) : wpList P ops Q (o :: rest) a w := wpList_run hgd v w hr h
def NPP (F : Int) (w : World) (e : Ending) (w' : World) : Prop := ∃ b s m, e = .returned (.pointer (some ⟨b, 0, none⟩)) ∧ PR w' b s m ∧ w'.cell? ⟨b, 23, none⟩ = some (.int .u64 F) ∧ Below w.heap.size w w' ∧ w.heap.size ≤ s
theorem newP_end (F : Int) (w W2 X : World) (k : Nat) (h2 : Below w.heap.size w W2) (h2s : W2.heap.size = w.heap.size + 1 + 1) (hy : At W2 (w.heap.size + 1) 355 yz) (hX : Below W2.heap.size W2 X) (hXs : X.heap.size = W2.heap.size + 1) (hm : X.heap[W2.heap.size]? = some (.map es4 4)) (hk : X.heap.size = k) (c : Value) :
    NPP F w (.returned (.pointer (some ⟨k, 0, none⟩))) (X.alloc (.cells (pz F (.slice (some ⟨w.heap.size + 1, 0, none⟩) 4 4) (.map (some W2.heap.size)) c) 210)) := by
  subst hk
  have hat : At (X.alloc (.cells (pz F (.slice (some ⟨w.heap.size + 1, 0, none⟩) 4 4) (.map (some W2.heap.size)) c) 210)) X.heap.size 210 _ := At.new X 210 _
  have hsy := (hy.below hX hy.lt).alloc (.cells (pz F (.slice (some ⟨w.heap.size + 1, 0, none⟩) 4 4) (.map (some W2.heap.size)) c) 210)
  refine ⟨X.heap.size, w.heap.size + 1, W2.heap.size, rfl, ⟨⟨?_, ?_, ?_, ?_, ?_, by omega⟩, ?_, ⟨yz, 0, 0, hsy, by kernel_rfl, by kernel_rfl, by kernel_rfl⟩⟩, ?_, ((h2.trans (hX.mono (by omega))).alloc (by omega) _), by omega⟩
  · rw [hat.cell]; kernel_rfl
  · rw [hat.cell]; kernel_rfl
  · rw [hat.cell]; kernel_rfl
  · rw [hat.cell]; kernel_rfl
  · rw [hat.cell]; kernel_rfl
  · rw [Below.heap_alloc _ _ _ (by omega)]; exact hm
  · rw [hat.cell]; kernel_rfl
set_option maxRecDepth 100000 in
set_option maxHeartbeats 4000000 in
theorem newP (F : Int) (hF : F = 0 ∨ F = 35184372088832) (w : World) : Calls Tryd.prog 29 #[.int .u64 F, .bool false] w (NPP F w) := by
  have hmm := @run_makeMap Tryd.prog
  obtain ⟨W2, hW2⟩ : ∃ W2, W2 = (w.alloc (.cells sz 241)).alloc (.cells yz 355) := ⟨_, rfl⟩
  have hms : (Instr.makeSlice 158 (.int .i64 4) (.int .i64 4)).run Tryd.prog (w.alloc (.cells sz 241)) = .ok (.slice (some ⟨w.heap.size + 1, 0, none⟩) 4 4) W2 := by
    rw [hW2]
    have := made Tryd.underlying158 info355 (w.alloc (.cells sz 241)) 4 (by decide) (by decide)
    simp at this
    exact this
  have h2 : Below w.heap.size w W2 := by rw [hW2]; exact ((Below.refl _ _).alloc (Nat.le_refl _) _).alloc (by simp) _
  have z2 : W2.heap.size = w.heap.size + 1 + 1 := by rw [hW2]; simp
  have hy : At W2 (w.heap.size + 1) 355 yz := by
    rw [hW2]
    have := At.new (w.alloc (.cells sz 241)) 355 yz
    rwa [show (w.alloc (.cells sz 241)).heap.size = w.heap.size + 1 from by simp] at this
  clear hW2
  have m0 : (W2.alloc (.map #[] 0)).heap[W2.heap.size]? = some (.map #[] 0) := heap_alloc_new W2 _
  obtain ⟨X1, hX1⟩ : ∃ X1, X1 = mput (W2.alloc (.map #[] 0)) W2.heap.size (.map #[⟨.string ⟨#[95, 95, 115, 112, 114, 101, 97, 100, 86, 97, 108, 117, 101, 115]⟩, .agg #[.int .i32 0, .int .u32 0, .int .u32 0], 0⟩] 1) := ⟨_, rfl⟩
  have u1 := mupd (v := .agg #[.int .i32 0, .int .u32 0, .int .u32 0]) ⟨#[95, 95, 115, 112, 114, 101, 97, 100, 86, 97, 108, 117, 101, 115]⟩ m0 (by kernel_rfl)
  have m1 : X1.heap[W2.heap.size]? = some (.map #[⟨.string ⟨#[95, 95, 115, 112, 114, 101, 97, 100, 86, 97, 108, 117, 101, 115]⟩, .agg #[.int .i32 0, .int .u32 0, .int .u32 0], 0⟩] 1) := by rw [hX1]; exact mput_same _ _ _ (by simp)
  obtain ⟨X2, hX2⟩ : ∃ X2, X2 = mput X1 W2.heap.size (.map #[⟨.string ⟨#[95, 95, 115, 112, 114, 101, 97, 100, 86, 97, 108, 117, 101, 115]⟩, .agg #[.int .i32 0, .int .u32 0, .int .u32 0], 0⟩, ⟨.string ⟨#[95, 95, 115, 112, 114, 101, 97, 100, 80, 114, 111, 112, 115]⟩, .agg #[.int .i32 0, .int .u32 0, .int .u32 1], 1⟩] 2) := ⟨_, rfl⟩
  have s1 : X1.heap.size = W2.heap.size + 1 := by rw [hX1, mput_size]; simp
  have u2 := mupd (v := .agg #[.int .i32 0, .int .u32 0, .int .u32 1]) ⟨#[95, 95, 115, 112, 114, 101, 97, 100, 80, 114, 111, 112, 115]⟩ m1 (by kernel_rfl)
  have m2 : X2.heap[W2.heap.size]? = some (.map #[⟨.string ⟨#[95, 95, 115, 112, 114, 101, 97, 100, 86, 97, 108, 117, 101, 115]⟩, .agg #[.int .i32 0, .int .u32 0, .int .u32 0], 0⟩, ⟨.string ⟨#[95, 95, 115, 112, 114, 101, 97, 100, 80, 114, 111, 112, 115]⟩, .agg #[.int .i32 0, .int .u32 0, .int .u32 1], 1⟩] 2) := by rw [hX2]; exact mput_same _ _ _ (by omega)
  obtain ⟨X3, hX3⟩ : ∃ X3, X3 = mput X2 W2.heap.size (.map #[⟨.string ⟨#[95, 95, 115, 112, 114, 101, 97, 100, 86, 97, 108, 117, 101, 115]⟩, .agg #[.int .i32 0, .int .u32 0, .int .u32 0], 0⟩, ⟨.string ⟨#[95, 95, 115, 112, 114, 101, 97, 100, 80, 114, 111, 112, 115]⟩, .agg #[.int .i32 0, .int .u32 0, .int .u32 1], 1⟩, ⟨.string ⟨#[95, 95, 97, 119, 97, 105, 116]⟩, .agg #[.int .i32 0, .int .u32 0, .int .u32 2], 2⟩] 3) := ⟨_, rfl⟩
  have s2 : X2.heap.size = W2.heap.size + 1 := by rw [hX2, mput_size]; exact s1
  have u3 := mupd (v := .agg #[.int .i32 0, .int .u32 0, .int .u32 2]) ⟨#[95, 95, 97, 119, 97, 105, 116]⟩ m2 (by kernel_rfl)
  have m3 : X3.heap[W2.heap.size]? = some (.map #[⟨.string ⟨#[95, 95, 115, 112, 114, 101, 97, 100, 86, 97, 108, 117, 101, 115]⟩, .agg #[.int .i32 0, .int .u32 0, .int .u32 0], 0⟩, ⟨.string ⟨#[95, 95, 115, 112, 114, 101, 97, 100, 80, 114, 111, 112, 115]⟩, .agg #[.int .i32 0, .int .u32 0, .int .u32 1], 1⟩, ⟨.string ⟨#[95, 95, 97, 119, 97, 105, 116]⟩, .agg #[.int .i32 0, .int .u32 0, .int .u32 2], 2⟩] 3) := by rw [hX3]; exact mput_same _ _ _ (by omega)
  obtain ⟨X4, hX4⟩ : ∃ X4, X4 = mput X3 W2.heap.size (.map es4 4) := ⟨_, rfl⟩
  have s3 : X3.heap.size = W2.heap.size + 1 := by rw [hX3, mput_size]; exact s2
  have u4 := mupd (v := .agg #[.int .i32 0, .int .u32 0, .int .u32 3]) ⟨#[95, 95, 102, 111, 114, 65, 119, 97, 105, 116]⟩ m3 (by kernel_rfl)
  have m4 : X4.heap[W2.heap.size]? = some (.map es4 4) := by rw [hX4]; exact mput_same _ _ _ (by omega)
  have s4 : X4.heap.size = W2.heap.size + 1 := by rw [hX4, mput_size]; exact s3
  have hb : Below W2.heap.size W2 X4 := by
    rw [hX4, hX3, hX2, hX1]
    exact mput_below (mput_below (mput_below (mput_below ((Below.refl _ _).alloc (Nat.le_refl _) _) _ _ (Nat.le_refl _)) _ _ (Nat.le_refl _)) _ _ (Nat.le_refl _)) _ _ (Nat.le_refl _)
  have v1 : (Instr.mapUpdate 170 (.map (some W2.heap.size)) (.string ⟨#[95, 95, 115, 112, 114, 101, 97, 100, 86, 97, 108, 117, 101, 115]⟩) (.agg #[.int .i32 0, .int .u32 0, .int .u32 0])).run Tryd.prog (W2.alloc (.map #[] 0)) = .ok () X1 := by rw [hX1]; exact u1
  have v2 : (Instr.mapUpdate 170 (.map (some W2.heap.size)) (.string ⟨#[95, 95, 115, 112, 114, 101, 97, 100, 80, 114, 111, 112, 115]⟩) (.agg #[.int .i32 0, .int .u32 0, .int .u32 1])).run Tryd.prog X1 = .ok () X2 := by rw [hX2]; exact u2
  have v3 : (Instr.mapUpdate 170 (.map (some W2.heap.size)) (.string ⟨#[95, 95, 97, 119, 97, 105, 116]⟩) (.agg #[.int .i32 0, .int .u32 0, .int .u32 2])).run Tryd.prog X2 = .ok () X3 := by rw [hX3]; exact u3
  have v4 : (Instr.mapUpdate 170 (.map (some W2.heap.size)) (.string ⟨#[95, 95, 102, 111, 114, 65, 119, 97, 105, 116]⟩) (.agg #[.int .i32 0, .int .u32 0, .int .u32 3])).run Tryd.prog X3 = .ok () X4 := by rw [hX4]; exact u4
  have H2 := Lib.hid h2
  have Z2 := Lib.hid z2
  have HY := Lib.hid hy
  have HB := Lib.hid hb
  have M4 := Lib.hid m4
  have S4 := Lib.hid s4
  clear u1 u2 u3 u4 m0 m1 m2 m3 m4 s1 s2 s3 s4 hX1 hX2 hX3 hX4 h2 z2 hy hb
  rcases hF with rfl | rfl
  · go_enter Tryd.func29, Tryd.ntmps29
    go_wp2_with (first
      | (refine wpList_run0 (o := ⟨some 6, .build 241 _, _, _, _, _⟩) rfl (.agg sz) ?hr ?_; case hr => kernel_rfl)
      | (refine wpList_run0 (o := ⟨some 9, .build 127 _, _, _, _, _⟩) rfl (.agg (oz 0)) ?hr ?_; case hr => kernel_rfl)
      | (refine wpList_run0 (o := ⟨some 10, .build 129 _, _, _, _, _⟩) rfl (.agg (qz 0)) ?hr ?_; case hr => kernel_rfl)
      | (refine wpList_run0 (o := ⟨some 12, .build 208 _, _, _, _, _⟩) rfl (.agg dz) ?hr ?_; case hr => kernel_rfl)
      | (refine wpList_run0 (o := ⟨some 26, .build 210 _, _, _, _, _⟩) rfl (.agg (pz 0 (.slice (some ⟨w.heap.size + 1, 0, none⟩) 4 4) (.map (some W2.heap.size)) (.pointer (some ⟨w.heap.size, 0, none⟩)))) ?hr ?_; case hr => kernel_rfl))
    exact bodyPost_ret (v := .pointer (some ⟨X4.heap.size, 0, none⟩)) (by simp [results, Tryd.results29, go_sem]) rfl (newP_end 0 w W2 X4 _ H2.out Z2.out HY.out HB.out S4.out M4.out rfl _)
  · go_enter Tryd.func29, Tryd.ntmps29
    go_wp2_with (first
      | (refine wpList_run0 (o := ⟨some 6, .build 241 _, _, _, _, _⟩) rfl (.agg sz) ?hr ?_; case hr => kernel_rfl)
      | (refine wpList_run0 (o := ⟨some 9, .build 127 _, _, _, _, _⟩) rfl (.agg (oz 35184372088832)) ?hr ?_; case hr => kernel_rfl)
      | (refine wpList_run0 (o := ⟨some 10, .build 129 _, _, _, _, _⟩) rfl (.agg (qz 35184372088832)) ?hr ?_; case hr => kernel_rfl)
      | (refine wpList_run0 (o := ⟨some 12, .build 208 _, _, _, _, _⟩) rfl (.agg dz) ?hr ?_; case hr => kernel_rfl)
      | (refine wpList_run0 (o := ⟨some 26, .build 210 _, _, _, _, _⟩) rfl (.agg (pz 35184372088832 (.slice (some ⟨w.heap.size + 1, 0, none⟩) 4 4) (.map (some W2.heap.size)) (.pointer (some ⟨w.heap.size, 0, none⟩)))) ?hr ?_; case hr => kernel_rfl))
    exact bodyPost_ret (v := .pointer (some ⟨X4.heap.size, 0, none⟩)) (by simp [results, Tryd.results29, go_sem]) rfl (newP_end 35184372088832 w W2 X4 _ H2.out Z2.out HY.out HB.out S4.out M4.out rfl _)
end Go.Proofs.YtjlmaingeobgeaaDoor
