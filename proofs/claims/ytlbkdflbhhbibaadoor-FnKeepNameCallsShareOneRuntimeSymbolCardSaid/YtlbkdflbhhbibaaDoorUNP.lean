/- Proved here: the contracts of the new parser, of recordUsage and of importFromRuntime. Conditions as stated. -/
import Derived.Test.YtlbkdflbhhbibaaDoorUNS
import Derived.Test.YtlbkdflbhhbibaaDoorAPX
import Derived.WalkKit
import Derived.WalkSpells
import Derived.WalkLawsBesides
import Derived.Lib.Hide
import Derived.Lib.SliceRun
import Derived.Deep.RegionWith
import Derived.OwnWalk
import Derived.Laws.OwnMore
import Derived.BigRegion
import Derived.Carry
import Derived.WideMake
import Derived.MapKept
namespace Go.Proofs.YtlbkdflbhhbibaaDoor
open Go.RowKit
set_option linter.unusedSimpArgs false
set_option linter.unusedVariables false

def nmv : ByteArray := ⟨#[95, 95, 110, 97, 109, 101]⟩
/-- Every block of cells but the parser's, the scope's and the symbols' is as it was. -/
def Kq (w w' : World) : Prop := ∀ (q : Nat) (cs : Array Value) (t : TypeId), w.heap[q]? = some (.cells cs t (0, 0)) → t ≠ 194 → t ≠ 218 → t ≠ 81 → w'.heap[q]? = some (.cells cs t (0, 0))
theorem Kq.refl (w : World) : Kq w w := fun _ _ _ h _ _ _ => h
theorem Kq.trans {a b c : World} (h1 : Kq a b) (h2 : Kq b c) : Kq a c := fun q cs t h n1 n2 n3 => h2 q cs t (h1 q cs t h n1 n2 n3) n1 n2 n3
theorem Kq.of_below {a b : World} (h : Below a.heap.size a b) : Kq a b := fun q cs t hq _ _ _ => (h.block q (Array.getElem?_eq_some_iff.1 hq).1).trans hq
theorem Kq.alloc {a b : World} (h : Kq a b) (o : Obj) : Kq a (b.alloc o) := h.trans (Kq.of_below ((Below.refl _ _).alloc (Nat.le_refl _) _))
theorem Kq.drew {a b : World} (h : Kq a b) : Kq a b.drew := h
theorem Kq.drewN {a b : World} (h : Kq a b) (n : Nat) : Kq a (b.drewN n) := h
theorem At.kq {w w' : World} {g : Nat} {t : TypeId} {cs : Array Value} (h : At w g t cs) (hk : Kq w w') (n1 : t ≠ 194) (n2 : t ≠ 218) (n3 : t ≠ 81) : At w' g t cs := hk g cs t h n1 n2 n3
theorem PS.of_blocks {w w' : World} {B b : Nat} {src : Int} {ts : Bool} {n : Nat} {xs : List Value} (h : PS w B b src ts n xs) (hb : w'.heap[b]? = w.heap[b]?) (hr : ∀ (k : Nat) (cs : Array Value), w.heap[k]? = some (Obj.cells cs 218 (0, 0)) → w'.heap[k]? = some (Obj.cells cs 218 (0, 0))) : PS w' B b src ts n xs := by
  obtain ⟨a, c, h66, h106, f106, h32, hown, hne⟩ := h
  have hc : ∀ o, w'.cell? ⟨b, o, none⟩ = w.cell? ⟨b, o, none⟩ := fun o => World.cell?_of_block (a := ⟨b, o, none⟩) hb
  refine ⟨a, c, (hc _).trans h66, (hc _).trans h106, (World.frozen?_of_block (a := ⟨b, 106, none⟩) hb).trans f106, (hc _).trans h32, ?_, hne⟩
  obtain ⟨e, h | ⟨g, cap, cur, hv, h1, hg, h2⟩⟩ := hown
  · exact ⟨e, .inl h⟩
  · exact ⟨e, .inr ⟨g, cap, cur, hv, h1, hr g cur hg, h2⟩⟩
theorem PS.below {w w' : World} {B b : Nat} {src : Int} {ts : Bool} {n : Nat} {xs : List Value} (h : PS w B b src ts n xs) (hb : Below w.heap.size w w') : PS w' B b src ts n xs := by
  have lb : b < w.heap.size := by obtain ⟨_, _, h66, _⟩ := h; exact World.block_lt_of_cell? _ _ h66
  exact PS.of_blocks h (hb.block b lb) (fun k cs hk => (hb.block k (Array.getElem?_eq_some_iff.1 hk).1).trans hk)
/-- The parser's cells that a call reads. -/
def PC (W : World) (b m : Nat) : Prop := W.cell? ⟨b, 117, none⟩ = some (.map (some m)) ∧ W.cell? ⟨b, 350, none⟩ = some (.bool false) ∧ W.cell? ⟨b, 105, none⟩ = some (.pointer none) ∧ W.cell? ⟨b, 32, none⟩ = some (.bool false)
theorem PC.below {w w' : World} {b m : Nat} (h : PC w b m) (hb : Below w.heap.size w w') : PC w' b m := ⟨kept hb h.1, kept hb h.2.1, kept hb h.2.2.1, kept hb h.2.2.2⟩
theorem PC.block {w w' : World} {b m : Nat} (h : PC w b m) (hb : w'.heap[b]? = w.heap[b]?) : PC w' b m := by
  have e : ∀ o, w'.cell? ⟨b, o, none⟩ = w.cell? ⟨b, o, none⟩ := fun o => World.cell?_of_block (a := ⟨b, o, none⟩) hb
  exact ⟨(e _).trans h.1, (e _).trans h.2.1, (e _).trans h.2.2.1, (e _).trans h.2.2.2⟩
/-- The fresh parser. -/
def P0 (W : World) (B b m c : Nat) : Prop := (B ≤ c ∧ c < m ∧ m < b) ∧ PS W B b 0 false 0 [] ∧ PC W b m ∧ W.cell? ⟨b, 187, none⟩ = some (.pointer (some ⟨c, 0, none⟩)) ∧ (∃ ps, At W b 194 ps) ∧ W.heap[m]? = some (.map #[] 0) ∧ (∃ cs : Array Value, At W c 81 cs ∧ cs[5]? = some (.slice none 0 0))
def entry (l0 : Int) : MapEntry := ⟨.string nmv, .agg #[.int .i32 l0, .int .u32 0, .int .u32 0], 0⟩
/-- The parser that has its one runtime symbol, used k times. -/
def P1 (W : World) (B b m : Nat) (l0 : Int) (k : Nat) : Prop := ∃ (g cap : Nat) (cur : Array Value), (B ≤ g ∧ B ≤ b ∧ B ≤ m) ∧ g ≠ b ∧ W.cell? ⟨b, 106, none⟩ = some (.slice (some ⟨g, 0, none⟩) 1 cap) ∧ At W g 218 cur ∧ 10 ≤ cur.size ∧ cur[1]? = some (.string nmv) ∧ cur[4]? = some (.int .u32 (k : Int)) ∧ PC W b m ∧ W.heap[m]? = some (.map #[entry l0] 1)
theorem P1.below {w w' : World} {B b m : Nat} {l0 : Int} {k : Nat} (h : P1 w B b m l0 k) (hb : Below w.heap.size w w') : P1 w' B b m l0 k := by
  obtain ⟨g, cap, cur, h1, h2, h3, h4, h5, h6, h7, h8, h9⟩ := h
  exact ⟨g, cap, cur, h1, h2, kept hb h3, h4.below hb h4.lt, h5, h6, h7, h8.below hb, (hb.block m (Array.getElem?_eq_some_iff.1 h9).1).trans h9⟩
theorem lookup_none {w : World} {m clock : Nat} (s : ByteArray) (hm : w.heap[m]? = some (.map #[] clock)) : (Instr.lookup 82 (.map (some m)) (.string s) true).run Tryd.prog w = .ok (.tuple #[.agg #[.int .i32 0, .int .u32 0, .int .u32 0], .bool false]) w := by
  have hf : Instr.findNow .string (.string s) ([] : List MapEntry) 0 = some none := rfl
  have hc : (Instr.checkKey true 10000 9 (.string s)).run Tryd.prog w = .ok () w := MapKept.run_checkKey (k := .string s) Tryd.underlying9 (by simp [MapKept.IsKey]) true 9999
  have hz : (zeroValue 77).run Tryd.prog w = .ok (.agg #[.int .i32 0, .int .u32 0, .int .u32 0]) w := by kernel_rfl
  simp [Instr.lookup, run_underlying Tryd.underlying82, MapKept.run_getObj_map hm, hc, MapKept.run_findKey Tryd.underlying9 hf, hz, Result.andThen]
theorem lookup_one {w : World} {m clock : Nat} (s : ByteArray) (v : Value) (n : Nat) (hm : w.heap[m]? = some (.map #[⟨.string s, v, n⟩] clock)) : (Instr.lookup 82 (.map (some m)) (.string s) true).run Tryd.prog w = .ok (.tuple #[v, .bool true]) w := by
  have hf : Instr.findNow .string (.string s) [(⟨.string s, v, n⟩ : MapEntry)] 0 = some (some (0, v)) := by simp [Instr.findNow, Instr.sameNow, (MapKept.bytes_beq s s).2 rfl]
  have hc : (Instr.checkKey false 10000 9 (.string s)).run Tryd.prog w = .ok () w := MapKept.run_checkKey (k := .string s) Tryd.underlying9 (by simp [MapKept.IsKey]) false 9999
  simp [Instr.lookup, run_underlying Tryd.underlying82, MapKept.run_getObj_map hm, hc, MapKept.run_findKey Tryd.underlying9 hf, Result.andThen]
def mput (w : World) (m : Nat) (o : Obj) : World := { w with heap := w.heap.setIfInBounds m o }
theorem mput_other (w : World) (m : Nat) (o : Obj) (k : Nat) (h : k ≠ m) : (mput w m o).heap[k]? = w.heap[k]? := by simp [mput, Ne.symm h]
theorem mput_size (w : World) (m : Nat) (o : Obj) : (mput w m o).heap.size = w.heap.size := by simp [mput]
theorem mput_same (w : World) (m : Nat) (o : Obj) (h : m < w.heap.size) : (mput w m o).heap[m]? = some o := by simp [mput, h]
theorem mput_below {B : Nat} {a w : World} (h : Below B a w) (m : Nat) (o : Obj) (hm : B ≤ m) : Below B a (mput w m o) := ⟨h.os, h.tape, h.output, by rw [mput_size]; exact h.size, fun k hk => (mput_other w m o k (by omega)).trans (h.block k hk)⟩
theorem update_first {w : World} {m clock : Nat} (s : ByteArray) (v : Value) (hm : w.heap[m]? = some (.map #[] clock)) : (Instr.mapUpdate 82 (.map (some m)) (.string s) v).run Tryd.prog w = .ok () (mput w m (.map #[⟨.string s, v, clock⟩] (clock + 1))) :=
  run_mapUpdate_first w 82 9 77 m clock s v Tryd.underlying82 Tryd.underlying9 hm

noncomputable def pz (m c c' : Value) : Array Value := (((zeroOf Tryd.prog 194).setIfInBounds 117 m).setIfInBounds 187 c).setIfInBounds 104 c'
theorem pz_size (m c c' : Value) : (pz m c c').size = 353 := by kernel_rfl
attribute [local go_sem] pz_size
noncomputable def sz81 : Array Value := zeroOf Tryd.prog 81
theorem wpList_run0 {P : Program} {ops : Array Oper} {rest : List Oper} {o : Oper} {a : Act} {w : World} {Q : Exit → Act → World → Prop} (hgd : o.guard = none) (v : Value)
    (hr : (execOp a.eval o).run P w = .ok (.value v) w) (h : wpList P ops Q rest (a.put o.dst v) w) : wpList P ops Q (o :: rest) a w := wpList_run hgd v w hr h
def NPP (w : World) (e : Ending) (w' : World) : Prop := ∃ b m c, e = .returned (.pointer (some ⟨b, 0, none⟩)) ∧ P0 w' w.heap.size b m c ∧ Below w.heap.size w w'
theorem newP_end (w : World) (sc : Array Value) (h5 : sc[5]? = some (.slice none 0 0)) (arr : Array Value) (h66 : arr[66]? = some (.int .u32 0)) (h106 : arr[106]? = some (.slice none 0 0)) (h32 : arr[32]? = some (.bool false))
    (h117 : arr[117]? = some (.map (some (w.heap.size + 1)))) (h350 : arr[350]? = some (.bool false)) (h105 : arr[105]? = some (.pointer none)) (h187 : arr[187]? = some (.pointer (some ⟨w.heap.size, 0, none⟩))) :
    NPP w (.returned (.pointer (some ⟨w.heap.size + 1 + 1, 0, none⟩))) (((w.alloc (.cells sc 81)).alloc (.map #[] 0)).alloc (.cells arr 194)) := by
  have hat : At (((w.alloc (.cells sc 81)).alloc (.map #[] 0)).alloc (.cells arr 194)) (w.heap.size + 1 + 1) 194 arr := by
    have := heap_alloc_new ((w.alloc (.cells sc 81)).alloc (.map #[] 0)) (.cells arr 194)
    unfold At
    simpa using this
  have hsc : At (((w.alloc (.cells sc 81)).alloc (.map #[] 0)).alloc (.cells arr 194)) w.heap.size 81 sc := ((At.new w 81 sc).alloc _).alloc _
  refine ⟨w.heap.size + 1 + 1, w.heap.size + 1, w.heap.size, rfl, ⟨by omega, ⟨none, 0, by rw [hat.cell]; exact h66, by rw [hat.cell]; exact h106, hat.frozen _, by rw [hat.cell]; exact h32, World.ownsRow_nil _ _ _ _, fun k hk => by cases hk⟩, ⟨by rw [hat.cell]; exact h117, by rw [hat.cell]; exact h350, by rw [hat.cell]; exact h105, by rw [hat.cell]; exact h32⟩, by rw [hat.cell]; exact h187, ⟨_, hat⟩, ?_, ⟨_, hsc, h5⟩⟩, ?_⟩
  · have := heap_alloc_new (w.alloc (.cells sc 81)) (.map #[] 0)
    rw [Below.heap_alloc _ _ _ (by simp)]
    simpa using this
  · exact (((Below.refl _ _).alloc (Nat.le_refl _) _).alloc (by simp) _).alloc (by simp; omega) _
set_option maxRecDepth 100000 in
set_option maxHeartbeats 4000000 in
theorem newP (w : World) : Calls Tryd.prog 6 #[] w (NPP w) := by
  have hmm := @run_makeMap Tryd.prog
  go_enter Tryd.func6, Tryd.ntmps6
  go_wp2_with (first | (refine wpList_run0 (o := ⟨some 2, .build 81 #[], _, _, _, _⟩) rfl (.agg sz81) ?hr ?_; case hr => kernel_rfl) | (refine wpList_run0 (o := ⟨some 7, .build 194 #[(20, .tmp 4), (58, .tmp 5), (7, .tmp 6)], _, _, _, _⟩) rfl (.agg (pz (.map (some (w.heap.size + 1))) (.pointer (some ⟨w.heap.size, 0, none⟩)) (.pointer (some ⟨w.heap.size, 0, none⟩)))) ?hr ?_; case hr => kernel_rfl))
  exact bodyPost_ret (v := .pointer (some ⟨w.heap.size + 1 + 1, 0, none⟩)) (by simp [results, Tryd.results6, go_sem]) rfl (newP_end w _ (by kernel_rfl) _ (by kernel_rfl) (by kernel_rfl) (by kernel_rfl) (by kernel_rfl) (by kernel_rfl) (by kernel_rfl) (by kernel_rfl))

theorem Kq.set {a b : World} (h : Kq a b) {q : Nat} (hq : a.heap.size ≤ q) (i : Nat) (v : Value) : Kq a (b.setCell ⟨q, i, none⟩ v) := fun x cs t hx n1 n2 n3 =>
  (Below.heap_setCell _ _ _ x (by have := (Array.getElem?_eq_some_iff.1 hx).1; simp; omega)).trans (h x cs t hx n1 n2 n3)
theorem P1.set {V : World} {B b m : Nat} {l0 : Int} {k : Nat} (h : P1 V B b m l0 k) {q : Nat} {t : TypeId} {cs : Array Value} (hq : At V q t cs) (ht : t ≠ 218) (hb : b ≠ q) (i : Nat) (v : Value) : P1 (V.setCell ⟨q, i, none⟩ v) B b m l0 k := by
  obtain ⟨g, cap, cur, h1, h2, h3, h4, h5, h6, h7, h8, h9⟩ := h
  have K : ∀ x, x ≠ q → (V.setCell ⟨q, i, none⟩ v).heap[x]? = V.heap[x]? := fun x hx => Below.heap_setCell _ _ _ x (by simpa using hx)
  have hg : g ≠ q := by
    rintro rfl
    unfold At at h4 hq
    rw [h4] at hq
    simp only [Option.some.injEq, Obj.cells.injEq] at hq
    exact ht hq.2.1.symm
  have hm : m ≠ q := by
    rintro rfl
    unfold At at hq
    rw [h9] at hq
    cases hq
  exact ⟨g, cap, cur, h1, h2, (World.cell?_of_block (a := ⟨b, 106, none⟩) (K b hb)).trans h3, (K g hg).trans h4, h5, h6, h7, h8.block (K b hb), (K m hm).trans h9⟩
def RUP (B b m : Nat) (l0 : Int) (k : Nat) (W : World) (e : Ending) (w' : World) : Prop := e = .returned (.tuple #[]) ∧ P1 w' B b m l0 (k + 1) ∧ Kq W w' ∧ Below B W w'
set_option maxRecDepth 100000 in
set_option maxHeartbeats 4000000 in
theorem recU (B b m : Nat) (l0 : Int) (k : Nat) (W : World) (hk : k ≤ 1000000) (hB : B ≤ W.heap.size) (h : P1 W B b m l0 k) : Calls Tryd.prog 29 #[.pointer (some ⟨b, 0, none⟩), .agg #[.int .u32 0, .int .u32 0]] W (RUP B b m l0 k W) := by
  obtain ⟨g, cap, cur, ⟨hBg, hBb, hBm⟩, hgb, h106, hat, hsz, hn1, hn4, ⟨h117, h350, h105, h32⟩, hmap⟩ := h
  have x4 : W.cell? ⟨g, 4, none⟩ = some (.int .u32 (k : Int)) := by rw [hat.cell]; exact hn4
  have fz4 := hat.frozen 4
  have lg := hat.lt
  have lb := World.block_lt_of_cell? _ _ h350
  have k0 : (0 : Int) ≤ (k : Int) := Int.natCast_nonneg _
  have k1 : (k : Int) ≤ 1000000 := by omega
  have gb' : ¬ b = g := fun e => hgb e.symm
  have END := Lib.hid (show P1 (W.setCell ⟨g, 4, none⟩ (.int .u32 ((k : Int) + 1))) B b m l0 (k + 1) ∧ Kq W (W.setCell ⟨g, 4, none⟩ (.int .u32 ((k : Int) + 1))) ∧ Below B W (W.setCell ⟨g, 4, none⟩ (.int .u32 ((k : Int) + 1))) from by
    have K : ∀ q, q ≠ g → (W.setCell ⟨g, 4, none⟩ (.int .u32 ((k : Int) + 1))).heap[q]? = W.heap[q]? := fun q hq => Below.heap_setCell _ _ _ q (by simpa using hq)
    have hmg : m ≠ g := by
      rintro rfl
      unfold At at hat
      rw [hat] at hmap
      cases hmap
    refine ⟨⟨g, cap, _, ⟨hBg, hBb, hBm⟩, hgb, (World.cell?_of_block (a := ⟨b, 106, none⟩) (K b gb')).trans h106, hat.set 4 _, by simpa using hsz, by rw [Array.getElem?_setIfInBounds_ne (by omega)]; exact hn1, by rw [Array.getElem?_setIfInBounds_self_of_lt (by omega)]; simp, PC.block ⟨h117, h350, h105, h32⟩ (K b gb'), (K m hmg).trans hmap⟩, ?_, (Below.refl B W).setCell (by simpa using hBg) _⟩
    intro q cs t hq n1 n2 n3
    have hqg : q ≠ g := by
      rintro rfl
      unfold At at hat
      rw [hat] at hq
      simp only [Option.some.injEq, Obj.cells.injEq] at hq
      exact n2 hq.2.1.symm
    exact (K q hqg).trans hq)
  clear hat hn1 hn4 hmap h117 hgb
  go_enter Tryd.func29, Tryd.ntmps29
  go_wp2_with fail
  go_region
  go_wp2_with fail
  go_end0
  obtain ⟨e1, e2, e3⟩ := END.out
  have hb : ∀ (V : World) (o : Obj), Below V.heap.size V (V.alloc o).drew := fun V o => ((Below.refl _ _).alloc (Nat.le_refl _) _).drew
  exact ⟨rfl, e1.below (hb _ _), (e2.alloc _).drew, (e3.alloc (by simp [World.setCell]; omega) _).drew⟩

def IP (B b m : Nat) (l0 l : Int) (k : Nat) (W : World) (e : Ending) (w' : World) : Prop :=
  ∃ i, e = .returned (.agg #[.iface 199 (.pointer (some ⟨i, 0, none⟩)), .int .i32 l]) ∧ At w' i 201 #[.int .u32 0, .int .u32 0, .bool false, .bool false, .bool false] ∧ P1 w' B b m l0 (k + 1) ∧ Kq W w' ∧ Below B W w'
theorem aggEntry (l0 : Int) : (entry l0) = ⟨.string nmv, .agg #[.int .i32 l0, .int .u32 0, .int .u32 0], 0⟩ := rfl
set_option maxRecDepth 100000 in
set_option maxHeartbeats 4000000 in
theorem imp1 (B b m : Nat) (l0 l : Int) (k : Nat) (W : World) (hk : k ≤ 1000000) (hB : B ≤ W.heap.size) (h : P1 W B b m l0 k) : Calls Tryd.prog 27 #[.pointer (some ⟨b, 0, none⟩), .agg #[.int .i32 l], .string nmv] W (IP B b m l0 l k W) := by
  have HP := Lib.hid h
  obtain ⟨g, cap, cur, ⟨hBg, hBb, hBm⟩, hgb, h106, hat, hsz, hn1, hn4, ⟨h117, h350, h105, h32⟩, hmap⟩ := h
  have lb := World.block_lt_of_cell? _ _ h350
  have lm : m < W.heap.size := (Array.getElem?_eq_some_iff.1 hmap).1
  have hlk : (Instr.lookup 82 (.map (some m)) (.string nmv) true).run Tryd.prog ((W.alloc (.cells #[.int .i32 l] 29)).alloc (.cells #[.nilIface, .int .i32 0] 39)) = .ok (.tuple #[.agg #[.int .i32 l0, .int .u32 0, .int .u32 0], .bool true]) ((W.alloc (.cells #[.int .i32 l] 29)).alloc (.cells #[.nilIface, .int .i32 0] 39)) := lookup_one nmv _ 0 (clock := 1) (by rw [Below.heap_alloc _ _ m (by simp; omega), Below.heap_alloc _ _ m (by omega)]; exact hmap)
  clear hat hn1 hn4 hmap h106 hgb
  go_enter Tryd.func27, Tryd.ntmps27
  go_wp2_with fail
  obtain ⟨V, hV⟩ : ∃ V, V = ((W.alloc (.cells #[.int .i32 l] 29)).alloc (.cells #[.nilIface, .int .i32 0] 39)).alloc (.cells #[.int .i32 l0, .int .u32 0, .int .u32 0] 77) := ⟨_, rfl⟩
  have hWV : Below W.heap.size W V := by rw [hV]; exact (((Below.refl _ _).alloc (Nat.le_refl _) _).alloc (by simp) _).alloc (by simp; omega) _
  have A4 : At V W.heap.size 29 #[.int .i32 l] := by rw [hV]; exact ((At.new W 29 _).alloc _).alloc _
  have A6 : At V (W.heap.size + 1) 39 #[.nilIface, .int .i32 0] := by
    rw [hV]
    have := At.new (W.alloc (.cells #[.int .i32 l] 29)) 39 #[.nilIface, .int .i32 0]
    rw [show (W.alloc (.cells #[.int .i32 l] 29)).heap.size = W.heap.size + 1 from by simp] at this
    exact this.alloc _
  have A7 : At V (W.heap.size + 1 + 1) 77 #[.int .i32 l0, .int .u32 0, .int .u32 0] := by
    rw [hV]
    have := At.new ((W.alloc (.cells #[.int .i32 l] 29)).alloc (.cells #[.nilIface, .int .i32 0] 39)) 77 #[.int .i32 l0, .int .u32 0, .int .u32 0]
    rwa [show ((W.alloc (.cells #[.int .i32 l] 29)).alloc (.cells #[.nilIface, .int .i32 0] 39)).heap.size = W.heap.size + 1 + 1 from by simp] at this
  rw [← hV]
  have HPV := HP.out.below hWV
  have zV := hWV.size
  clear hV hlk
  refine (recU B b m l0 k V hk (by omega) HPV).mono ?_
  rintro e V1 ⟨rfl, hp1, hq1, hb1⟩
  have zV1 := hb1.size
  have HA4 := A4.kq hq1 (by decide) (by decide) (by decide)
  have HA6 := A6.kq hq1 (by decide) (by decide) (by decide)
  have HA7 := A7.kq hq1 (by decide) (by decide) (by decide)
  have c4 : V1.cell? ⟨W.heap.size, 0, none⟩ = some (.int .i32 l) := by rw [HA4.cell]; rfl
  have c60 : V1.cell? ⟨W.heap.size + 1, 0, none⟩ = some .nilIface := by rw [HA6.cell]; rfl
  have c61 : V1.cell? ⟨W.heap.size + 1, 1, none⟩ = some (.int .i32 0) := by rw [HA6.cell]; rfl
  have c71 : V1.cell? ⟨W.heap.size + 1 + 1, 1, none⟩ = some (.int .u32 0) := by rw [HA7.cell]; rfl
  have c72 : V1.cell? ⟨W.heap.size + 1 + 1, 2, none⟩ = some (.int .u32 0) := by rw [HA7.cell]; rfl
  have fz0 := HA6.frozen 0
  have fz1 := HA6.frozen 1
  have l4 := HA4.lt
  have l6 := HA6.lt
  have l7 := HA7.lt
  have END := Lib.hid (show P1 V1 B b m l0 (k + 1) ∧ Kq W V1 ∧ Below B W V1 from ⟨hp1, (Kq.of_below hWV).trans hq1, (hWV.mono hB).trans hb1⟩)
  have HH6 := Lib.hid HA6
  clear A4 A6 A7 HA4 HA6 HA7 hp1 hq1 hb1
  go_wp2_with fail
  refine bodyPost_ret (v := .agg #[.iface 199 (.pointer (some ⟨V1.heap.size, 0, none⟩)), .int .i32 l]) (by simp [results, Tryd.results27, go_sem, *]) rfl ?_
  obtain ⟨e1, e2, e3⟩ := END.out
  have hq0 : W.heap.size ≤ W.heap.size + 1 := by omega
  refine ⟨V1.heap.size, rfl, ?_, ?_, ?_, ?_⟩
  · have := At.new ((V1.setCell ⟨W.heap.size + 1, 0, none⟩ (.iface 199 (.pointer (some ⟨V1.heap.size, 0, none⟩)))).setCell ⟨W.heap.size + 1, 1, none⟩ (.int .i32 l)) 201 #[.int .u32 0, .int .u32 0, .bool false, .bool false, .bool false]
    simpa [World.setCell] using this
  · exact ((e1.set HH6.out (by decide) (by omega) 0 _).set (HH6.out.set 0 _) (by decide) (by omega) 1 _).below ((Below.refl _ _).alloc (Nat.le_refl _) _)
  · exact ((e2.set hq0 0 _).set hq0 1 _).alloc _
  · exact ((e3.setCell (by simp; omega) _).setCell (by simp; omega) _).alloc (by simp [World.setCell]; omega) _

theorem info58 : (Tryd.prog.info? 58).map (fun i => (i.zero, i.size, i.bytes)) = some (some (.agg #[.int .u32 0, .int .u32 0]), 2, 8) := by kernel_rfl
theorem atNe2 {w : World} {a b : Nat} {t t' : TypeId} {cs cs' : Array Value} (h : At w a t cs) (h' : At w b t' cs') (ht : t ≠ t') : a ≠ b := by
  intro e
  subst e
  unfold At at h h'
  rw [h] at h'
  simp only [Option.some.injEq, Obj.cells.injEq] at h'
  exact ht h'.2.1
set_option maxRecDepth 100000 in
set_option maxHeartbeats 8000000 in
theorem imp0 (B b m c : Nat) (l : Int) (W : World) (hB0 : 0 < B) (hB : B ≤ W.heap.size) (hg0 : W.cell? ⟨0, 0, none⟩ = some (.int .u32 4294967295)) (hg1 : W.cell? ⟨0, 1, none⟩ = some (.int .u32 4294967295)) (h : P0 W B b m c) : Calls Tryd.prog 27 #[.pointer (some ⟨b, 0, none⟩), .agg #[.int .i32 l], .string nmv] W (IP B b m l l 0 W) := by
  obtain ⟨⟨o1, o2, o3⟩, hps, ⟨h117, h350, h105, h32⟩, h187, ⟨ps, hpt⟩, hmap, ⟨sc, hsc, hs5⟩⟩ := h
  have lb : b < W.heap.size := World.block_lt_of_cell? _ _ h350
  have lm : m < W.heap.size := by omega
  have hlk : (Instr.lookup 82 (.map (some m)) (.string nmv) true).run Tryd.prog ((W.alloc (.cells #[.int .i32 l] 29)).alloc (.cells #[.nilIface, .int .i32 0] 39)) = .ok (.tuple #[.agg #[.int .i32 0, .int .u32 0, .int .u32 0], .bool false]) ((W.alloc (.cells #[.int .i32 l] 29)).alloc (.cells #[.nilIface, .int .i32 0] 39)) := lookup_none nmv (clock := 0) (by rw [Below.heap_alloc _ _ m (by simp; omega), Below.heap_alloc _ _ m (by omega)]; exact hmap)
  have HPS := Lib.hid hps
  have HPT := Lib.hid hpt
  have HMP := Lib.hid hmap
  have HSC := Lib.hid hsc
  have HS5 := Lib.hid hs5
  have H187 := Lib.hid h187
  clear hps hpt hmap hsc hs5 h187
  go_enter Tryd.func27, Tryd.ntmps27
  go_wp2_with fail
  obtain ⟨V, hV⟩ : ∃ V, V = ((W.alloc (.cells #[.int .i32 l] 29)).alloc (.cells #[.nilIface, .int .i32 0] 39)).alloc (.cells #[.int .i32 l, .int .u32 0, .int .u32 0] 77) := ⟨_, rfl⟩
  have hWV : Below W.heap.size W V := by rw [hV]; exact (((Below.refl _ _).alloc (Nat.le_refl _) _).alloc (by simp) _).alloc (by simp; omega) _
  have A4 : At V W.heap.size 29 #[.int .i32 l] := by rw [hV]; exact ((At.new W 29 _).alloc _).alloc _
  have A6 : At V (W.heap.size + 1) 39 #[.nilIface, .int .i32 0] := by
    rw [hV]
    have := At.new (W.alloc (.cells #[.int .i32 l] 29)) 39 #[.nilIface, .int .i32 0]
    rw [show (W.alloc (.cells #[.int .i32 l] 29)).heap.size = W.heap.size + 1 from by simp] at this
    exact this.alloc _
  have A7 : At V (W.heap.size + 1 + 1) 77 #[.int .i32 l, .int .u32 0, .int .u32 0] := by
    rw [hV]
    have := At.new ((W.alloc (.cells #[.int .i32 l] 29)).alloc (.cells #[.nilIface, .int .i32 0] 39)) 77 #[.int .i32 l, .int .u32 0, .int .u32 0]
    rwa [show ((W.alloc (.cells #[.int .i32 l] 29)).alloc (.cells #[.nilIface, .int .i32 0] 39)).heap.size = W.heap.size + 1 + 1 from by simp] at this
  rw [← hV]
  have zV := hWV.size
  have v0 := kept hWV hg0
  have v1 := kept hWV hg1
  have VPC := PC.below ⟨h117, h350, h105, h32⟩ hWV
  have V187 := kept hWV H187.out
  have VPT := HPT.out.below hWV lb
  have VSC := HSC.out.below hWV (by omega)
  have VMP : V.heap[m]? = some (.map #[] 0) := (hWV.block m lm).trans HMP.out
  clear hV hlk
  refine (newSym B b 0 0 [] nmv 27 V hB0 (by omega) (by omega) (by omega) v0 v1 (HPS.out.below hWV)).mono ?_
  rintro e V1 ⟨rfl, hp1, hk1, hb1, hs1⟩
  have zV1 := hb1.size
  have B4 := (hk1.block A4 (by omega) (by decide)).trans A4
  have B6 := (hk1.block A6 (by omega) (by decide)).trans A6
  have B7 : At V1 (W.heap.size + 1 + 1) 77 _ := (hk1.block A7 (by omega) (by decide)).trans A7
  have BSC : At V1 c 81 sc := (hk1.block VSC (by omega) (by decide)).trans VSC
  have BMP : V1.heap[m]? = some (.map #[] 0) := (hk1 m (by omega) (by omega) (fun cs fr => by rw [VMP]; simp)).trans VMP
  have BPC : PC V1 b m := ⟨((hs1 117 (by decide)).1).trans VPC.1, ((hs1 350 (by decide)).1).trans VPC.2.1, ((hs1 105 (by decide)).1).trans VPC.2.2.1, ((hs1 32 (by decide)).1).trans VPC.2.2.2⟩
  have B187 : V1.cell? ⟨b, 187, none⟩ = some (.pointer (some ⟨c, 0, none⟩)) := ((hs1 187 (by decide)).1).trans V187
  have KQ1 : Kq W V1 := fun q cs t hq n1 n2 n3 => by
    have hq' := Kq.of_below hWV q cs t hq n1 n2 n3
    exact (hk1.block hq' (fun e => by subst e; have hpt := HPT.out; unfold At at hpt; rw [hpt] at hq; simp only [Option.some.injEq, Obj.cells.injEq] at hq; exact n1 hq.2.1.symm) n2).trans hq'
  have BW1 : Below B W V1 := (hWV.mono hB).trans hb1
  obtain ⟨ga, gc, _, h106, f106, _, hown, hne⟩ := hp1
  have hgb : ∃ g cur, ga = some ⟨g, 0, none⟩ ∧ B ≤ g ∧ g ≠ b ∧ At V1 g 218 cur ∧ 10 ≤ cur.size ∧ cur[1]? = some (.string nmv) ∧ cur[4]? = some (.int .u32 0) := by
    obtain ⟨hl, ⟨_, h⟩ | ⟨g, cap, cur, hv, h1, hg, h2, h3, h4, h5⟩⟩ := hown
    · omega
    · simp only [Value.slice.injEq] at hv
      obtain ⟨rfl, _, rfl⟩ := hv
      refine ⟨g, cur, rfl, h1, hne g rfl, hg, by omega, ?_, ?_⟩
      · have := congrArg (fun l : List Value => l[1]?) h5
        simp [List.getElem?_take, symOf] at this
        exact this
      · have := congrArg (fun l : List Value => l[4]?) h5
        simp [List.getElem?_take, symOf] at this
        exact this
  obtain ⟨g, cur, rfl, hBg, hgnb, hatg, hsz, hn1, hn4⟩ := hgb
  clear A4 A6 A7 hb1 hk1 hs1 hown hne VPC V187 VPT VSC VMP v0 v1 hWV
  have y71 : V1.cell? ⟨W.heap.size + 1 + 1, 1, none⟩ = some (.int .u32 0) := by rw [B7.cell]; rfl
  have y72 : V1.cell? ⟨W.heap.size + 1 + 1, 2, none⟩ = some (.int .u32 0) := by rw [B7.cell]; rfl
  have z71 := B7.frozen 1
  have z72 := B7.frozen 2
  have l7 := B7.lt
  have HB4 := Lib.hid B4
  have HB6 := Lib.hid B6
  have HB7 := Lib.hid B7
  have HBS := Lib.hid BSC
  have HPCC := Lib.hid BPC
  have HGA := Lib.hid hatg
  have HGC := Lib.hid hn1
  have HGD := Lib.hid hn4
  have HMP1 := Lib.hid BMP
  have HKQ1 := Lib.hid KQ1
  have HBW1 := Lib.hid BW1
  have H106 := Lib.hid h106
  have H187' := Lib.hid B187
  clear B4 B6 B7 BSC BPC BMP hatg hn1 hn4 KQ1 BW1 h106 B187 f106 h117 h350 h105 h32 HPS HPT HMP HSC H187
  go_wp2_with fail
  obtain ⟨V2, hV2⟩ : ∃ V, V = (V1.setCell ⟨W.heap.size + 1 + 1, 1, none⟩ (.int .u32 0)).setCell ⟨W.heap.size + 1 + 1, 2, none⟩ (.int .u32 0) := ⟨_, rfl⟩
  rw [← hV2]
  have K2 : ∀ q, q ≠ W.heap.size + 1 + 1 → V2.heap[q]? = V1.heap[q]? := fun q hq => by rw [hV2, Below.heap_setCell _ _ _ q (by simpa using hq), Below.heap_setCell _ _ _ q (by simpa using hq)]
  have zV2 : V2.heap.size = V1.heap.size := by rw [hV2]; simp [World.setCell]
  have A7 : At V2 (W.heap.size + 1 + 1) 77 #[.int .i32 l, .int .u32 0, .int .u32 0] := by rw [hV2]; exact ((HB7.out.set 1 (.int .u32 0)).set 2 (.int .u32 0))
  have A4 : At V2 W.heap.size 29 #[.int .i32 l] := (K2 _ (by omega)).trans HB4.out
  have A6 : At V2 (W.heap.size + 1) 39 #[.nilIface, .int .i32 0] := (K2 _ (by omega)).trans HB6.out
  have AS : At V2 c 81 sc := (K2 _ (by omega)).trans HBS.out
  have AG : At V2 g 218 cur := (K2 _ (atNe2 HGA.out HB7.out (by decide))).trans HGA.out
  have AM : V2.heap[m]? = some (.map #[] 0) := (K2 _ (by omega)).trans HMP1.out
  have AP := HPCC.out.block (K2 b (by omega))
  have a106 : V2.cell? ⟨b, 106, none⟩ = some (.slice (some ⟨g, 0, none⟩) 1 gc) := (World.cell?_of_block (a := ⟨b, 106, none⟩) (K2 b (by omega))).trans H106.out
  have a187 : V2.cell? ⟨b, 187, none⟩ = some (.pointer (some ⟨c, 0, none⟩)) := (World.cell?_of_block (a := ⟨b, 187, none⟩) (K2 b (by omega))).trans H187'.out
  have KQ2 : Kq W V2 := by rw [hV2]; exact (HKQ1.out.set (by omega) 1 _).set (by omega) 2 _
  have BW2 : Below B W V2 := by rw [hV2]; exact (HBW1.out.setCell (by simp; omega) _).setCell (by simp; omega) _
  clear hV2 y71 y72 z71 z72 l7 HB4 HB6 HB7 HBS HPCC HGA HMP1 HKQ1 HBW1 H106 H187'
  have zz : V1.heap.size ≤ V2.heap.size ∧ V2.heap.size ≤ V1.heap.size := by omega
  obtain ⟨cap, w1, hrun, hlt1, hblk1, _, _, hb1⟩ := appRun_nil (P := Tryd.prog) ((V2.alloc (.cells #[.int .u32 0, .int .u32 0] 58)).drew) 75 58 (.agg #[.int .u32 0, .int .u32 0]) 2 8 Tryd.underlying75 info58 rfl (by decide) (by decide) ⟨V2.heap.size, 0, none⟩ 1 [.int .u32 0, .int .u32 0] rfl (World.news_of_block (cs := #[.int .u32 0, .int .u32 0]) (t := 58) (fr := (0, 0)) (heap_alloc_new V2 _)) (by simp [Value.oneCell']) (V2.heap.size + 1) (by simp)
  have hb2 : Below V2.heap.size V2 w1 := (((Below.refl _ _).alloc (Nat.le_refl _) _).drew).trans (hb1.mono (by omega))
  have A7' := Lib.hid (A7.below hb2 A7.lt)
  have A4' := Lib.hid (A4.below hb2 A4.lt)
  have A6' := Lib.hid (A6.below hb2 A6.lt)
  have AS' := AS.below hb2 AS.lt
  have AG' := Lib.hid (AG.below hb2 AG.lt)
  have AM' := Lib.hid (show w1.heap[m]? = some (.map #[] 0) from (hb2.block m (by omega)).trans AM)
  have AP' := Lib.hid (AP.below hb2)
  have a106' := Lib.hid (kept hb2 a106)
  have KQ' := Lib.hid (KQ2.trans (Kq.of_below hb2))
  have BW' := Lib.hid (BW2.trans (hb2.mono (by omega)))
  have x1 : V2.cell? ⟨c, 5, none⟩ = some (.slice none 0 0) := by rw [AS.cell]; exact HS5.out
  have x2 : w1.cell? ⟨c, 5, none⟩ = some (.slice none 0 0) := by rw [AS'.cell]; exact HS5.out
  have x3 := AS'.frozen 5
  have x4 := kept hb2 a187
  have x5 : V2.cell? ⟨W.heap.size + 1 + 1, 1, none⟩ = some (.int .u32 0) := by rw [A7.cell]; rfl
  have x6 : V2.cell? ⟨W.heap.size + 1 + 1, 2, none⟩ = some (.int .u32 0) := by rw [A7.cell]; rfl
  have l1 : c < V2.heap.size := AS.lt
  have l2 : b < V2.heap.size := by omega
  have l3 := A7.lt
  have zw1 := hb2.size
  have HSC := Lib.hid AS'
  have l4 : c < w1.heap.size := AS'.lt
  have l5 : b < w1.heap.size := by omega
  clear A4 A6 A7 AS AG AM AP a106 KQ2 BW2 AS' hb2 hb1 hblk1 K2 zV2
  go_region
  go_wp2_with fail
  obtain ⟨V3, hV3⟩ : ∃ V, V = w1.setCell ⟨c, 5, none⟩ (.slice (some ⟨V2.heap.size + 1, 0, none⟩) 1 cap) := ⟨_, rfl⟩
  rw [← hV3]
  have K3 : ∀ q, q ≠ c → V3.heap[q]? = w1.heap[q]? := fun q hq => by rw [hV3, Below.heap_setCell _ _ _ q (by simpa using hq)]
  have zV3 : V3.heap.size = w1.heap.size := by rw [hV3]; simp [World.setCell]
  have A7 : At V3 (W.heap.size + 1 + 1) 77 #[.int .i32 l, .int .u32 0, .int .u32 0] := (K3 _ (by omega)).trans A7'.out
  have A4 := Lib.hid (show At V3 W.heap.size 29 #[.int .i32 l] from (K3 _ (by omega)).trans A4'.out)
  have A6 := Lib.hid (show At V3 (W.heap.size + 1) 39 #[.nilIface, .int .i32 0] from (K3 _ (by omega)).trans A6'.out)
  have AG := Lib.hid (show At V3 g 218 cur from (K3 _ (atNe2 AG'.out HSC.out (by decide))).trans AG'.out)
  have AM := Lib.hid (show V3.heap[m]? = some (.map #[] 0) from (K3 _ (by omega)).trans AM'.out)
  have AP := AP'.out.block (K3 b (by omega))
  have a106 := Lib.hid (show V3.cell? ⟨b, 106, none⟩ = some (.slice (some ⟨g, 0, none⟩) 1 gc) from (World.cell?_of_block (a := ⟨b, 106, none⟩) (K3 b (by omega))).trans a106'.out)
  have KQ3 := Lib.hid (show Kq W V3 from fun q cs t hq n1 n2 n3 => by
    have h := KQ'.out q cs t hq n1 n2 n3
    have hqc : q ≠ c := by
      rintro rfl
      have hs := HSC.out
      unfold At at hs
      rw [hs] at h
      simp only [Option.some.injEq, Obj.cells.injEq] at h
      exact n3 h.2.1.symm
    exact (K3 q hqc).trans h)
  have BW3 := Lib.hid (show Below B W V3 from by rw [hV3]; exact BW'.out.setCell (by simpa using o1) _)
  have zz3 : w1.heap.size ≤ V3.heap.size ∧ V3.heap.size ≤ w1.heap.size := by omega
  clear hV3 A7' A4' A6' AG' AM' AP' a106' KQ' BW' HSC K3 zV3 x1 x2 x3 x4 x5 x6 l3 hrun
  obtain ⟨W4, hW4⟩ : ∃ W4, W4 = mput V3.drew m (.map #[entry l] 1) := ⟨_, rfl⟩
  have HW4 := Lib.hid hW4
  have hup : (Instr.mapUpdate 82 (.map (some m)) (.string nmv) (.agg #[.int .i32 l, .int .u32 0, .int .u32 0])).run Tryd.prog V3.drew = .ok () W4 := by rw [hW4]; exact update_first nmv _ (clock := 0) AM.out
  have y0 : V3.cell? ⟨b, 117, none⟩ = some (.map (some m)) := AP.1
  have y1 : V3.cell? ⟨W.heap.size + 1 + 1, 0, none⟩ = some (.int .i32 l) := by rw [A7.cell]; rfl
  have y2 : V3.cell? ⟨W.heap.size + 1 + 1, 1, none⟩ = some (.int .u32 0) := by rw [A7.cell]; rfl
  have y3 : V3.cell? ⟨W.heap.size + 1 + 1, 2, none⟩ = some (.int .u32 0) := by rw [A7.cell]; rfl
  have l6 := A7.lt
  have l7 : b < V3.heap.size := by omega
  have HA7 := Lib.hid A7
  have HAP := Lib.hid AP
  clear A7 AP hW4
  go_region
  all_goals
    have K4 : ∀ q, q ≠ m → W4.heap[q]? = V3.heap[q]? := fun q hq => by rw [HW4.out]; exact mput_other _ _ _ _ hq
    have zV4 : W4.heap.size = V3.heap.size := by rw [HW4.out]; exact mput_size _ _ _
    have B7 : At W4 (W.heap.size + 1 + 1) 77 #[.int .i32 l, .int .u32 0, .int .u32 0] := (K4 _ (by omega)).trans HA7.out
    have A4 : At W4 W.heap.size 29 #[.int .i32 l] := (K4 _ (by omega)).trans A4.out
    have A6 : At W4 (W.heap.size + 1) 39 #[.nilIface, .int .i32 0] := (K4 _ (by omega)).trans A6.out
    have hgm : g ≠ m := by
      rintro rfl
      have hs := AG.out
      unfold At at hs
      rw [AM.out] at hs
      cases hs
    have AP4 := HAP.out.block (K4 b (by omega))
    have P14 : P1 W4 B b m l 0 := ⟨g, gc, cur, ⟨hBg, by omega, by omega⟩, hgnb, (World.cell?_of_block (a := ⟨b, 106, none⟩) (K4 b (by omega))).trans a106.out, (K4 g hgm).trans AG.out, hsz, HGC.out, HGD.out, AP4, by rw [HW4.out]; exact mput_same _ _ _ (by simp; omega)⟩
    have KQ4 : Kq W W4 := fun q cs t hq n1 n2 n3 => by
      have h := KQ3.out q cs t hq n1 n2 n3
      have hqm : q ≠ m := by
        rintro rfl
        rw [AM.out] at h
        cases h
      exact (K4 q hqm).trans h
    have BW4 : Below B W W4 := by rw [HW4.out]; exact mput_below BW3.out.drew m _ (by omega)
    have c71 : W4.cell? ⟨W.heap.size + 1 + 1, 1, none⟩ = some (.int .u32 0) := by rw [B7.cell]; rfl
    have c72 : W4.cell? ⟨W.heap.size + 1 + 1, 2, none⟩ = some (.int .u32 0) := by rw [B7.cell]; rfl
    have l7 := B7.lt
    have A7 := B7
    have zz4 : V3.heap.size ≤ W4.heap.size := by omega
    clear hup y0 y1 y2 y3 K4 zV4 HW4 HA7 HAP AG AM a106 KQ3 BW3 AP4 B7
    go_wp2_with fail
    refine (recU B b m l 0 W4 (by omega) (by omega) P14).mono ?_
    rintro e V1 ⟨rfl, hp1, hq1, hb1⟩
    clear c71 c72 l7
    have zV1 := hb1.size
    have HA4 := A4.kq hq1 (by decide) (by decide) (by decide)
    have HA6 := A6.kq hq1 (by decide) (by decide) (by decide)
    have HA7 := A7.kq hq1 (by decide) (by decide) (by decide)
    have c4 : V1.cell? ⟨W.heap.size, 0, none⟩ = some (.int .i32 l) := by rw [HA4.cell]; rfl
    have c60 : V1.cell? ⟨W.heap.size + 1, 0, none⟩ = some .nilIface := by rw [HA6.cell]; rfl
    have c61 : V1.cell? ⟨W.heap.size + 1, 1, none⟩ = some (.int .i32 0) := by rw [HA6.cell]; rfl
    have c71 : V1.cell? ⟨W.heap.size + 1 + 1, 1, none⟩ = some (.int .u32 0) := by rw [HA7.cell]; rfl
    have c72 : V1.cell? ⟨W.heap.size + 1 + 1, 2, none⟩ = some (.int .u32 0) := by rw [HA7.cell]; rfl
    have fz0 := HA6.frozen 0
    have fz1 := HA6.frozen 1
    have l4 := HA4.lt
    have l6 := HA6.lt
    have l7 := HA7.lt
    have END := Lib.hid (show P1 V1 B b m l (0 + 1) ∧ Kq W V1 ∧ Below B W V1 from ⟨hp1, KQ4.trans hq1, BW4.trans hb1⟩)
    have HH6 := Lib.hid HA6
    clear A4 A6 A7 HA4 HA6 HA7 hp1 hq1 hb1
    go_wp2_with fail
    refine bodyPost_ret (v := .agg #[.iface 199 (.pointer (some ⟨V1.heap.size, 0, none⟩)), .int .i32 l]) (by simp [results, Tryd.results27, go_sem, *]) rfl ?_
    obtain ⟨e1, e2, e3⟩ := END.out
    have hq0 : W.heap.size ≤ W.heap.size + 1 := by omega
    refine ⟨V1.heap.size, rfl, ?_, ?_, ?_, ?_⟩
    · have := At.new ((V1.setCell ⟨W.heap.size + 1, 0, none⟩ (.iface 199 (.pointer (some ⟨V1.heap.size, 0, none⟩)))).setCell ⟨W.heap.size + 1, 1, none⟩ (.int .i32 l)) 201 #[.int .u32 0, .int .u32 0, .bool false, .bool false, .bool false]
      simpa [World.setCell] using this
    · exact ((e1.set HH6.out (by decide) (by omega) 0 _).set (HH6.out.set 0 _) (by decide) (by omega) 1 _).below ((Below.refl _ _).alloc (Nat.le_refl _) _)
    · exact ((e2.set hq0 0 _).set hq0 1 _).alloc _
    · exact ((e3.setCell (by simp; omega) _).setCell (by simp; omega) _).alloc (by simp [World.setCell]; omega) _
end Go.Proofs.YtlbkdflbhhbibaaDoor
