/- Proved here: closed facts on this program that the walks use: what a type assertion to each pointer type answers, what a field of a struct value is; and small lemmas on worlds. No condition. -/
import Derived.Test.YtkkkamniccgblaaFmtProg
import Derived.WalkKit
import Derived.Lib.Hide
import Derived.Below
import Derived.Laws.Rows
import Derived.Deep.Draws
import Derived.LaidEql
namespace Go.Proofs.YtkkkamniccgblaaFmt
open Go.RowKit
set_option linter.unusedVariables false
set_option linter.unusedSimpArgs false

theorem ta_gen {P : Program} {c e : TypeId} (hu : P.underlying c = some (.pointer e)) (hz : ∀ w, (zeroValue c).run P w = .ok (.pointer none) w) (t : TypeId) (v : Value) (xT : TypeId) (w : World) :
    (Instr.typeAssert (.iface t v) xT c true).run P w = .ok (.tuple #[if t = c then v else .pointer none, .bool (decide (t = c))]) w := by
  by_cases h : t = c
  · subst h
    simp [Instr.typeAssert, run_underlying hu]
  · simp [Instr.typeAssert, run_underlying hu, h, hz]
theorem ta_nil {P : Program} {c e : TypeId} (hu : P.underlying c = some (.pointer e)) (hz : ∀ w, (zeroValue c).run P w = .ok (.pointer none) w) (xT : TypeId) (w : World) :
    (Instr.typeAssert .nilIface xT c true).run P w = .ok (.tuple #[.pointer none, .bool false]) w := by
  simp [Instr.typeAssert, run_underlying hu, hz]
theorem ta_bare {P : Program} {c e : TypeId} (hu : P.underlying c = some (.pointer e)) (v : Value) (xT : TypeId) (w : World) :
    (Instr.typeAssert (.iface c v) xT c false).run P w = .ok v w := by
  simp [Instr.typeAssert, run_underlying hu]

theorem eqIn_same (d : Nat) {P : Program} {t e : TypeId} {i : TypeInfo} (hu : P.underlying t = some (.pointer e)) (hi : P.info? e = some i) (a : Addr) (w : World) :
    (Op.equalIn (d + 1) t (.pointer (some a)) (.pointer (some a))).run P w = .ok true w := by
  by_cases h : i.size = 0
  · simp [Op.equalIn, run_underlying hu, sizeOf, typeInfo, hi, h]
  · simp [Op.equalIn, run_underlying hu, sizeOf, typeInfo, hi, h, run_sameAddr_same]
theorem eq_same {P : Program} {t e : TypeId} {i : TypeInfo} (hu : P.underlying t = some (.pointer e)) (hi : P.info? e = some i) (a : Addr) (w : World) :
    (Op.equal t (.pointer (some a)) (.pointer (some a))).run P w = .ok true w := eqIn_same 9999 hu hi a w
theorem eqIn_other (d : Nat) {P : Program} {t e : TypeId} {i : TypeInfo} (hu : P.underlying t = some (.pointer e)) (hi : P.info? e = some i) (hs : i.size ≠ 0) {a b : Addr} (w : World) {ca cb : Array Value} {ta tb : TypeId} (hne : a ≠ b) (ha : w.heap[a.block]? = some (.cells ca ta (0, 0))) (hb : w.heap[b.block]? = some (.cells cb tb (0, 0))) :
    (Op.equalIn (d + 1) t (.pointer (some a)) (.pointer (some b))).run P w = .ok false w := by
  simp [Op.equalIn, run_underlying hu, sizeOf, typeInfo, hi, hs, run_sameAddr_other w hne ha hb]
theorem eq_other {P : Program} {t e : TypeId} {i : TypeInfo} (hu : P.underlying t = some (.pointer e)) (hi : P.info? e = some i) (hs : i.size ≠ 0) {a b : Addr} (w : World) {ca cb : Array Value} {ta tb : TypeId} (hne : a ≠ b) (ha : w.heap[a.block]? = some (.cells ca ta (0, 0))) (hb : w.heap[b.block]? = some (.cells cb tb (0, 0))) :
    (Op.equal t (.pointer (some a)) (.pointer (some b))).run P w = .ok false w := eqIn_other 9999 hu hi hs w hne ha hb
theorem peq_same {P : Program} {t e : TypeId} (hu : P.underlying t = some (.pointer e)) (hi : (P.info? e).isSome = true) (a : Addr) (w : World) :
    (binOp .eql t (.pointer (some a)) (.pointer (some a))).run P w = .ok (.bool true) w := by
  obtain ⟨i, hi⟩ := Option.isSome_iff_exists.1 hi
  simp only [binOp]
  simp [eq_same hu hi]
theorem pne_same {P : Program} {t e : TypeId} (hu : P.underlying t = some (.pointer e)) (hi : (P.info? e).isSome = true) (a : Addr) (w : World) :
    (binOp .neq t (.pointer (some a)) (.pointer (some a))).run P w = .ok (.bool false) w := by
  obtain ⟨i, hi⟩ := Option.isSome_iff_exists.1 hi
  simp only [binOp]
  simp [eq_same hu hi]
theorem peq_other {P : Program} {t e : TypeId} (hu : P.underlying t = some (.pointer e)) (hi : (P.info? e).map (fun i => decide (i.size = 0)) = some false) {a b : Addr} (w : World) {ca cb : Array Value} {ta tb : TypeId} (hne : a ≠ b) (ha : w.heap[a.block]? = some (.cells ca ta (0, 0))) (hb : w.heap[b.block]? = some (.cells cb tb (0, 0))) :
    (binOp .eql t (.pointer (some a)) (.pointer (some b))).run P w = .ok (.bool false) w := by
  obtain ⟨i, hi, hs⟩ := Option.map_eq_some_iff.1 hi
  simp only [binOp]
  simp [eq_other hu hi (by simpa using hs) w hne ha hb]
theorem pne_other {P : Program} {t e : TypeId} (hu : P.underlying t = some (.pointer e)) (hi : (P.info? e).map (fun i => decide (i.size = 0)) = some false) {a b : Addr} (w : World) {ca cb : Array Value} {ta tb : TypeId} (hne : a ≠ b) (ha : w.heap[a.block]? = some (.cells ca ta (0, 0))) (hb : w.heap[b.block]? = some (.cells cb tb (0, 0))) :
    (binOp .neq t (.pointer (some a)) (.pointer (some b))).run P w = .ok (.bool true) w := by
  obtain ⟨i, hi, hs⟩ := Option.map_eq_some_iff.1 hi
  simp only [binOp]
  simp [eq_other hu hi (by simpa using hs) w hne ha hb]
@[go_sem] theorem pe29 (a : Addr) (w : World) : (binOp .eql 29 (.pointer (some a)) (.pointer (some a))).run Tryf.prog w = .ok (.bool true) w := peq_same Tryf.underlying29 (by kernel_rfl) a w
@[go_sem] theorem pn29 (a : Addr) (w : World) : (binOp .neq 29 (.pointer (some a)) (.pointer (some a))).run Tryf.prog w = .ok (.bool false) w := pne_same Tryf.underlying29 (by kernel_rfl) a w
@[go_sem] theorem pe52 (a : Addr) (w : World) : (binOp .eql 52 (.pointer (some a)) (.pointer (some a))).run Tryf.prog w = .ok (.bool true) w := peq_same Tryf.underlying52 (by kernel_rfl) a w
@[go_sem] theorem pn52 (a : Addr) (w : World) : (binOp .neq 52 (.pointer (some a)) (.pointer (some a))).run Tryf.prog w = .ok (.bool false) w := pne_same Tryf.underlying52 (by kernel_rfl) a w
@[go_sem] theorem pe183 (a : Addr) (w : World) : (binOp .eql 183 (.pointer (some a)) (.pointer (some a))).run Tryf.prog w = .ok (.bool true) w := peq_same Tryf.underlying183 (by kernel_rfl) a w
@[go_sem] theorem pn183 (a : Addr) (w : World) : (binOp .neq 183 (.pointer (some a)) (.pointer (some a))).run Tryf.prog w = .ok (.bool false) w := pne_same Tryf.underlying183 (by kernel_rfl) a w

theorem below_drewN {B : Nat} {a w : World} (h : Below B a w) (n : Nat) : Below B a (w.drewN n) := ⟨h.os, h.tape, h.output, h.size, h.block⟩
theorem bel2 {w w1 w2 : World} (h1 : Below w.heap.size w w1) (h2 : Below w1.heap.size w1 w2) : Below w.heap.size w w2 := h1.trans (h2.mono h1.size)
theorem bcell {W w1 : World} (hb : Below W.heap.size W w1) : (∀ b o, b < W.heap.size → w1.cell? ⟨b, o, none⟩ = W.cell? ⟨b, o, none⟩) ∧ (∀ b o, b < W.heap.size → w1.frozen? ⟨b, o, none⟩ = W.frozen? ⟨b, o, none⟩) :=
  ⟨fun b o h => hb.cell (p := ⟨b, o, none⟩) h, fun b o h => hb.frozen (p := ⟨b, o, none⟩) h⟩
theorem kept {W w1 : World} {b o : Nat} {v : Value} (hb : Below W.heap.size W w1) (h : W.cell? ⟨b, o, none⟩ = some v) : w1.cell? ⟨b, o, none⟩ = some v := by
  rw [hb.cell (p := ⟨b, o, none⟩) (World.block_lt_of_cell? _ _ h)]; exact h
theorem keptF {W w1 : World} {b o : Nat} {v : Value} (hb : Below W.heap.size W w1) (h : W.cell? ⟨b, o, none⟩ = some v) (hf : W.frozen? ⟨b, o, none⟩ = false) : w1.frozen? ⟨b, o, none⟩ = false := by
  rw [hb.frozen (p := ⟨b, o, none⟩) (World.block_lt_of_cell? _ _ h)]; exact hf
theorem kAlloc {w : World} {b o : Nat} {u : Value} {x : Obj} (h : w.cell? ⟨b, o, none⟩ = some u) : (w.alloc x).cell? ⟨b, o, none⟩ = some u := by
  rw [World.cell?_alloc_lt _ _ _ (World.block_lt_of_cell? _ _ h)]; exact h
theorem kSet {w : World} {b o B i : Nat} {u v : Value} (h : w.cell? ⟨b, o, none⟩ = some u) (hb : b ≠ B) : (w.setCell ⟨B, i, none⟩ v).cell? ⟨b, o, none⟩ = some u := by
  rw [World.cell?_setCell_other _ _ _ _ (by intro e; injection e with e1 _ _; exact hb (by omega))]; exact h
theorem kDrew {w : World} {a : Addr} {u : Value} (h : w.cell? a = some u) : w.drew.cell? a = some u := h
theorem ret_bool {a b : Bool} (h : a = b) : Ending.returned (.bool a) = .returned (.bool b) := by rw [h]
theorem ret_int {k : IntKind} {a b : Int} (h : a = b) : Ending.returned (.int k a) = .returned (.int k b) := by rw [h]
theorem wpList_run {P : Program} {ops : Array Oper} {rest : List Oper} {o : Oper} {a : Act} {w : World} {Q : Exit → Act → World → Prop} (hgd : o.guard = none) (v : Value) (w' : World)
    (hr : (execOp a.eval o).run P w = .ok (.value v) w') (h : wpList P ops Q rest (a.put o.dst v) w') : wpList P ops Q (o :: rest) a w :=
  wpList_plain hgd fun next hK => by
    show o.upon P a next Q ((execOp a.eval o).run P w)
    rw [hr]
    exact hK _ _ h
theorem made {P : Program} {t e : TypeId} {z : Value} {sz by_ : Nat} (hu : P.underlying t = some (.slice e)) (hi : (P.info? e).map (fun i => (i.zero, i.size, i.bytes)) = some (some z, sz, by_)) (w : World) (n : Nat) (hb : by_ * n ≤ 281474976710656) (hn : n ≤ 4611686018427387904) :
    (Instr.makeSlice t (.int .i64 (n : Int)) (.int .i64 (n : Int))).run P w = .ok (.slice (some ⟨w.heap.size, 0, none⟩) n n) (w.alloc (.cells (madeCells z.cells (n * sz)) e)) := by
  obtain ⟨i, hii, h⟩ := Option.map_eq_some_iff.1 hi
  simp only [Prod.mk.injEq] at h
  obtain ⟨h1, h2, h3⟩ := h
  subst h2 h3
  have hb2 : ((i.bytes * n : Nat) : Int) ≤ 281474976710656 := by omega
  rw [Int.natCast_mul] at hb2
  have h := run_make (P := P) w t e i z hu hii h1 .i64 .i64 (n : Int) (n : Int) (by omega) (by omega) hb2 (by omega)
  simpa using h
theorem add_none (b off k : Nat) : (⟨b, off, none⟩ : Addr).add k = ⟨b, off + k, none⟩ := by
  unfold Addr.add; split
  · rename_i h; subst h; rfl
  · rfl
theorem spot_none {w : World} {x : Addr} {v : Value} (h : w.cell? (x.add 0) = some v) : ∃ b off, x = ⟨b, off, none⟩ := by
  have h1 := World.cell?_spot h
  obtain ⟨b, off, spot⟩ := x
  have h2 : spot = none := by simpa [Addr.add] using h1
  exact ⟨b, off, by rw [h2]⟩
theorem madeAt (z : Value) (n i : Nat) (h : i < n) : (madeCells #[z] n)[i]? = some z := by
  simp [madeCells, h, Nat.mod_one]
def zeroOf (P : Program) (t : TypeId) : Array Value := match P.info? t with | some i => (match i.zero with | some z => z.cells | none => #[]) | none => #[]

/-- Block g is the cells cs of element type t, none of them frozen. -/
def At (w : World) (g : Nat) (t : TypeId) (cs : Array Value) : Prop := w.heap[g]? = some (.cells cs t (0, 0))
theorem At.lt {w : World} {g : Nat} {t : TypeId} {cs : Array Value} (h : At w g t cs) : g < w.heap.size := by
  unfold At at h
  rcases Nat.lt_or_ge g w.heap.size with h1 | h1
  · exact h1
  · rw [Array.getElem?_eq_none h1] at h; cases h
theorem At.cell {w : World} {g : Nat} {t : TypeId} {cs : Array Value} (h : At w g t cs) (i : Nat) : w.cell? ⟨g, i, none⟩ = cs[i]? := cell_of_row w g i cs t (0, 0) h
theorem At.frozen {w : World} {g : Nat} {t : TypeId} {cs : Array Value} (h : At w g t cs) (i : Nat) : w.frozen? ⟨g, i, none⟩ = false := by
  unfold At at h; simp [World.frozen?, h]
theorem At.new (w : World) (t : TypeId) (cs : Array Value) : At (w.alloc (.cells cs t)) w.heap.size t cs := heap_alloc_new w _
theorem At.drew {w : World} {g : Nat} {t : TypeId} {cs : Array Value} (h : At w g t cs) : At w.drew g t cs := h
theorem At.drewN {w : World} {g : Nat} {t : TypeId} {cs : Array Value} (h : At w g t cs) (n : Nat) : At (w.drewN n) g t cs := h
theorem At.alloc {w : World} {g : Nat} {t : TypeId} {cs : Array Value} (h : At w g t cs) (o : Obj) : At (w.alloc o) g t cs := (Below.heap_alloc w o g h.lt).trans h
theorem At.set {w : World} {g : Nat} {t : TypeId} {cs : Array Value} (h : At w g t cs) (i : Nat) (u : Value) : At (w.setCell ⟨g, i, none⟩ u) g t (cs.setIfInBounds i u) := by
  unfold At at h ⊢
  simp [World.setCell, Array.getElem?_modify, h]
theorem At.far {w : World} {g : Nat} {t : TypeId} {cs : Array Value} (h : At w g t cs) {p : Addr} (hp : g ≠ p.block) (u : Value) : At (w.setCell p u) g t cs := (Below.heap_setCell w p u g hp).trans h
theorem At.below {w w' : World} {g B : Nat} {t : TypeId} {cs : Array Value} (h : At w g t cs) (hb : Below B w w') (hg : g < B) : At w' g t cs := (hb.block g hg).trans h
/-- What is told of a slice of integers that came in (as the guide's shell tells it). -/
def IsRow (k : IntKind) (w : World) (a : Option Addr) (len cap : Nat) (zs : List Int) : Prop :=
  (a = none ∧ len = 0 ∧ cap = 0 ∧ zs = []) ∨
  ∃ x, a = some x ∧ len ≤ cap ∧ cap ≤ maxLen ∧ zs.length = cap ∧ (∀ i, i < zs.length → w.cell? (x.add i) = some (.int k (zs.getD i 0))) ∧ ∀ n ∈ zs, (Lit.int k n).wf = true
def IsBools (w : World) (a : Option Addr) (len cap : Nat) (zs : List Bool) : Prop :=
  (a = none ∧ len = 0 ∧ cap = 0 ∧ zs = []) ∨
  ∃ x, a = some x ∧ len ≤ cap ∧ cap ≤ maxLen ∧ zs.length = cap ∧ (∀ i, i < zs.length → w.cell? (x.add i) = some (.bool (zs.getD i false)))
def IsStrs (w : World) (a : Option Addr) (len cap : Nat) (zs : List ByteArray) : Prop :=
  (a = none ∧ len = 0 ∧ cap = 0 ∧ zs = []) ∨
  ∃ x, a = some x ∧ len ≤ cap ∧ cap ≤ maxLen ∧ zs.length = cap ∧ (∀ i, i < zs.length → w.cell? (x.add i) = some (.string (zs.getD i ByteArray.empty))) ∧ ∀ n ∈ zs, n.size ≤ maxLen
theorem wf_u8 {a : Int} (h : (Lit.int .u8 a).wf = true) : 0 ≤ a ∧ a ≤ 255 := by
  have hmin : IntKind.u8.min = 0 := rfl
  have hmax : IntKind.u8.max = 255 := rfl
  simp only [Lit.wf, Bool.and_eq_true, decide_eq_true_eq] at h
  exact ⟨by omega, by omega⟩
theorem wf_u16 {a : Int} (h : (Lit.int .u16 a).wf = true) : 0 ≤ a ∧ a ≤ 65535 := by
  have hmin : IntKind.u16.min = 0 := rfl
  have hmax : IntKind.u16.max = 65535 := rfl
  simp only [Lit.wf, Bool.and_eq_true, decide_eq_true_eq] at h
  exact ⟨by omega, by omega⟩
theorem wf_u32 {a : Int} (h : (Lit.int .u32 a).wf = true) : 0 ≤ a ∧ a ≤ 4294967295 := by
  have hmin : IntKind.u32.min = 0 := rfl
  have hmax : IntKind.u32.max = 4294967295 := rfl
  simp only [Lit.wf, Bool.and_eq_true, decide_eq_true_eq] at h
  exact ⟨by omega, by omega⟩
theorem wf_i8 {a : Int} (h : (Lit.int .i8 a).wf = true) : -128 ≤ a ∧ a ≤ 127 := by
  have hmin : IntKind.i8.min = -128 := rfl
  have hmax : IntKind.i8.max = 127 := rfl
  simp only [Lit.wf, Bool.and_eq_true, decide_eq_true_eq] at h
  exact ⟨by omega, by omega⟩
theorem wf_i32 {a : Int} (h : (Lit.int .i32 a).wf = true) : -2147483648 ≤ a ∧ a ≤ 2147483647 := by
  have hmin : IntKind.i32.min = -2147483648 := rfl
  have hmax : IntKind.i32.max = 2147483647 := rfl
  simp only [Lit.wf, Bool.and_eq_true, decide_eq_true_eq] at h
  exact ⟨by omega, by omega⟩
theorem wf_i64 {a : Int} (h : (Lit.int .i64 a).wf = true) : -9223372036854775808 ≤ a ∧ a ≤ 9223372036854775807 := by
  have hmin : IntKind.i64.min = -9223372036854775808 := rfl
  have hmax : IntKind.i64.max = 9223372036854775807 := rfl
  simp only [Lit.wf, Bool.and_eq_true, decide_eq_true_eq] at h
  exact ⟨by omega, by omega⟩
theorem wf_u64 {a : Int} (h : (Lit.int .u64 a).wf = true) : 0 ≤ a ∧ a ≤ 18446744073709551615 := by
  have hmin : IntKind.u64.min = 0 := rfl
  have hmax : IntKind.u64.max = 18446744073709551615 := rfl
  simp only [Lit.wf, Bool.and_eq_true, decide_eq_true_eq] at h
  exact ⟨by omega, by omega⟩
end Go.Proofs.YtkkkamniccgblaaFmt
