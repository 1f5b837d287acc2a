/- Proved here: contracts of the law's shims over the parser. Conditions: the cells, as stated. -/
import Derived.Test.YthgcchgpplblbaaFmtVPA
import Derived.WalkKit
import Derived.WalkSpells
import Derived.WalkLawsBesides
import Derived.Lib.Hide
import Derived.Lib.SliceRun
import Derived.Deep.RegionWith
import Derived.OwnWalk
import Derived.Deep.RegionHeld3
import Derived.Deep.RegionLaw
import Derived.Deep.AppendLies
import Derived.StillTactics
import Derived.Laws.OwnMore
import Derived.Laws.CopyRow
import Derived.Laws.CopyOwn
namespace Go.Proofs.YthgcchgpplblbaaFmt
open Go.RowKit
set_option linter.unusedSimpArgs false
set_option linter.unusedVariables false

set_option maxRecDepth 100000 in
theorem z9_0 (B0 B p O off s k : Nat) (cur : Value) (loc kd : Int) (w : World) (hB0 : B0 ≤ p) (hB : B ≤ w.heap.size) (hp : PP w p O off (k + 1) cur (.pointer none)) (c0 : w.cell? ⟨O, off, none⟩ = some (.pointer (some ⟨s, 0, none⟩))) (c1 : w.cell? ⟨O, off + 1, none⟩ = some (.int .i32 loc)) (ck : w.cell? ⟨s, 15, none⟩ = some (.int .u8 kd)) (hk : k ≤ 100000) (nO : O ≠ p) (ns : s ≠ p) :
    Calls Tryf.prog 9 #[.pointer (some ⟨p, 0, none⟩), .int .u8 kd, .int .i32 loc] w (P0P B0 B p O off k s (.pointer none) w) := by
  have HC := Lib.hid (push0 B0 B p O off s k cur loc kd w hB0 hB hp c0 c1 ck hk nO ns)
  clear hp c0 c1 ck
  go_enter Tryf.func9, Tryf.ntmps9
  go_wp2_with fail
  refine HC.out.mono ?_
  rintro e w' ⟨rfl, h⟩
  have H := Lib.hid h
  clear h
  go_wp2_with fail
  go_end0
  exact ⟨rfl, H.out⟩
set_option maxRecDepth 100000 in
theorem z9_1 (B0 B p Q O off s k n : Nat) (xs : List Value) (cur : Value) (loc kd : Int) (w : World) (hB0 : B0 ≤ p) (hQ0 : B0 ≤ Q) (hpB : p < B) (hQB : Q < B) (hB : B ≤ w.heap.size) (hp : PP w p O off (k + 1) cur (.pointer (some ⟨Q, 0, none⟩))) (hq : QS w B Q n xs) (c0 : w.cell? ⟨O, off, none⟩ = some (.pointer (some ⟨s, 0, none⟩))) (c1 : w.cell? ⟨O, off + 1, none⟩ = some (.int .i32 loc)) (ck : w.cell? ⟨s, 15, none⟩ = some (.int .u8 kd)) (hk : k ≤ 100000) (hn : n ≤ 100000) (nO : O ≠ p) (ns : s ≠ p) (nQ : Q ≠ p) :
    Calls Tryf.prog 9 #[.pointer (some ⟨p, 0, none⟩), .int .u8 kd, .int .i32 loc] w (P1P B0 B p Q O off k s n xs w) := by
  have HC := Lib.hid (push1 B0 B p Q O off s k n xs cur loc kd w hB0 hQ0 hpB hQB hB hp hq c0 c1 ck hk hn nO ns nQ)
  clear hp c0 c1 ck hq
  go_enter Tryf.func9, Tryf.ntmps9
  go_wp2_with fail
  refine HC.out.mono ?_
  rintro e w' ⟨rfl, h⟩
  have H := Lib.hid h
  clear h
  go_wp2_with fail
  go_end0
  exact ⟨rfl, H.out⟩
def Is (v : Value) (w : World) (e : Ending) (w' : World) : Prop := e = .returned v ∧ w = w'
set_option maxRecDepth 100000 in
theorem z10 (p O off k : Nat) (cur part : Value) (s : Option Addr) (w : World) (hp : PP w p O off k (.pointer s) part) : Calls Tryf.prog 10 #[.pointer (some ⟨p, 0, none⟩)] w (Is (.pointer s) w) := by
  obtain ⟨⟨a, h177, ha⟩, f177, h104, f104, h105, f105⟩ := hp
  go_enter Tryf.func10, Tryf.ntmps10
  go_wp2_with fail
  go_ret
  exact ⟨rfl, rfl⟩
set_option maxRecDepth 100000 in
theorem z11 (p O off k : Nat) (cur part : Value) (w : World) (hk : k ≤ 100000) (hp : PP w p O off k cur part) : Calls Tryf.prog 11 #[.pointer (some ⟨p, 0, none⟩)] w (Is (.int .i64 k) w) := by
  obtain ⟨⟨a, h177, ha⟩, f177, h104, f104, h105, f105⟩ := hp
  go_enter Tryf.func11, Tryf.ntmps11
  go_wp2_with fail
  go_ret
  exact ⟨rfl, rfl⟩
set_option maxRecDepth 100000 in
theorem z12 (p O off k : Nat) (cur part : Value) (s : Value) (w : World) (hk : k ≤ 100000) (hp : PP w p O off (k + 1) cur part) (c0 : w.cell? ⟨O, off, none⟩ = some (s)) (s' : Option Addr) (hs : s = .pointer s') : Calls Tryf.prog 12 #[.pointer (some ⟨p, 0, none⟩), .int .i64 0] w (Is s w) := by
  obtain ⟨⟨a, h177, ha⟩, f177, h104, f104, h105, f105⟩ := hp
  obtain rfl := ha (by omega)
  subst hs
  clear ha
  go_enter Tryf.func12, Tryf.ntmps12
  go_wp2_with fail
  go_ret
  exact ⟨rfl, rfl⟩
def NPP (m : Option Addr) (w : World) (e : Ending) (w' : World) : Prop :=
  e = .returned (.pointer (some ⟨w.heap.size, 0, none⟩)) ∧ PP w' w.heap.size 0 0 0 (.pointer m) (.pointer none) ∧ Below w.heap.size w w'
noncomputable def pz : Array Value := zeroOf Tryf.prog 186
theorem pz_size : pz.size = 353 := by kernel_rfl
theorem pz177 : pz[177]? = some (.slice none 0 0) := by kernel_rfl
theorem pz105 : pz[105]? = some (.pointer none) := by kernel_rfl
attribute [local go_sem] pz_size
theorem wpList_run0 {P : Program} {ops : Array Oper} {rest : List Oper} {o : Oper} {a : Act} {w : World} {Q : Exit → Act → World → Prop} (hgd : o.guard = none) (v : Value)
    (hr : (execOp a.eval o).run P w = .ok (.value v) w) (h : wpList P ops Q rest (a.put o.dst v) w) : wpList P ops Q (o :: rest) a w := wpList_run hgd v w hr h
theorem newP_end (m : Option Addr) (w : World) (arr : Array Value) (o : Obj) (h1 : arr[177]? = some (.slice none 0 0)) (h2 : arr[104]? = some (.pointer m)) (h3 : arr[105]? = some (.pointer none)) : NPP m w (.returned (.pointer (some ⟨w.heap.size, 0, none⟩))) ((w.alloc (.cells arr 186)).alloc o) := by
  have hat : At ((w.alloc (.cells arr 186)).alloc o) w.heap.size 186 arr := At.alloc (heap_alloc_new w _) _
  exact ⟨rfl, ⟨⟨none, by rw [hat.cell]; exact h1, fun h => absurd h (by omega)⟩, hat.frozen _, by rw [hat.cell]; exact h2, hat.frozen _, by rw [hat.cell]; exact h3, hat.frozen _⟩, ((Below.refl _ _).alloc (Nat.le_refl _) _).alloc (by simp) _⟩
set_option maxRecDepth 100000 in
set_option maxHeartbeats 1000000 in
theorem newP (m : Option Addr) (w : World) : Calls Tryf.prog 6 #[.int .u32 0, .bool false, .int .i64 0, .pointer m, .pointer m] w (NPP m w) := by
  have hmk : ∀ w, (Instr.makeSlice 129 (.int .i64 0) (.int .i64 0)).run Tryf.prog w = .ok (.slice (some ⟨w.heap.size, 0, none⟩) 0 0) (w.alloc (.cells #[] 201)) := fun w => by
    have h := made (P := Tryf.prog) (t := 129) (e := 201) (z := .agg #[.pointer none, .string ⟨#[]⟩, .int .u32 0, .int .u32 0, .int .u32 0, .int .u32 0, .int .u32 0, .int .u16 0, .int .u8 0, .int .u8 0]) (sz := 10) (by_ := 48) Tryf.underlying129 (by kernel_rfl) w 0 (by omega) (by omega)
    rw [show madeCells _ (0 * 10) = #[] from by simp [madeCells]] at h
    exact h
  go_enter Tryf.func6, Tryf.ntmps6
  go_wp2_with (refine wpList_run0 (o := ⟨some 12, .build 186 #[], _, _, _, _⟩) rfl (.agg pz) ?hr ?_; case hr => kernel_rfl)
  go_ret
  refine newP_end m w _ _ ?_ (by simp [pz_size]) ?_
  · (repeat rw [Array.getElem?_setIfInBounds_ne (by decide)]); exact pz177
  · (repeat rw [Array.getElem?_setIfInBounds_ne (by decide)]); exact pz105
def SOP (B0 p n : Nat) (cs : Array Value) (z : List Int) (cur part : Value) (w : World) (e : Ending) (w' : World) : Prop :=
  e = .returned (.tuple #[]) ∧ (∃ ds, At w' w.heap.size 188 ds ∧ ∀ j, j < n → ds[2 * j]? = cs[j]? ∧ ds[2 * j + 1]? = some (.int .i32 (z.getD j 0))) ∧ PP w' p w.heap.size 0 n cur part ∧ KB w.heap.size p p w w' ∧ Below B0 w w' ∧ w.heap.size < w'.heap.size
def SORel (n : Nat) (cs : Array Value) (z : List Int) (w : World) (i : Value) (wr : World) : Prop :=
  ∃ (k : Nat) (ds : Array Value), k ≤ n ∧ i = .int .i64 k ∧ At wr w.heap.size 188 ds ∧ Hid (ds.size = 2 * n) ∧ Hid (∀ j, j < k → ds[2 * j]? = cs[j]? ∧ ds[2 * j + 1]? = some (.int .i32 (z.getD j 0))) ∧ Hid (Below w.heap.size w wr)
theorem madeAt2 (a b : Value) (n : Nat) : (madeCells #[a, b] (n * 2)).size = 2 * n := by simp [madeCells]; omega
set_option maxRecDepth 100000 in
set_option maxHeartbeats 4000000 in
theorem setOrder (B0 p S L loff n capS lenL capL off k0 : Nat) (cs : Array Value) (z : List Int) (aL : Option Addr) (cur part : Value) (w : World) (hB0 : B0 ≤ p) (hn : n ≤ 100000) (hS : At w S 26 cs) (hcs : cs.size = n) (hptr : ∀ j, j < n → ∃ b, cs[j]? = some (.pointer (some ⟨b, 0, none⟩)))
    (hL : 0 < n → aL = some ⟨L, loff, none⟩ ∧ n ≤ lenL ∧ ∀ j, j < n → w.cell? ⟨L, loff + j, none⟩ = some (.int .i32 (z.getD j 0))) (hl2 : lenL ≤ 1048576) (hp : PP w p off 0 k0 cur part) (nS : S ≠ p) :
    Calls Tryf.prog 7 #[.pointer (some ⟨p, 0, none⟩), .slice (some ⟨S, 0, none⟩) n n, .slice aL lenL capL] w (SOP B0 p n cs z cur part w) := by
  obtain ⟨⟨a, h177, ha⟩, f177, h104, f104, h105, f105⟩ := hp
  have lp : p < w.heap.size := World.block_lt_of_cell? _ _ h177
  have lS : S < w.heap.size := hS.lt
  have hmk := made (P := Tryf.prog) (t := 161) (e := 188) (z := .agg #[.pointer none, .int .i32 0]) (sz := 2) (by_ := 16) Tryf.underlying161 (by kernel_rfl) w n (by omega) (by omega)
  have H1 := Lib.hid h177
  have H2 := Lib.hid f177
  have H3 := Lib.hid h104
  have H4 := Lib.hid f104
  have H5 := Lib.hid h105
  have H6 := Lib.hid f105
  have HS := Lib.hid hS
  have HC := Lib.hid hcs
  have HP := Lib.hid hptr
  have HL := Lib.hid hL
  clear h177 f177 h104 f104 h105 f105 hS hcs hptr hL ha
  go_enter Tryf.func7, Tryf.ntmps7
  go_wp2_with fail
  clear hmk
  go_loopw [13] (fun i wr => SORel n cs z w i wr) (fun i _ => n - (intOf i).toNat)
  case atStart => exact ⟨0, _, by omega, rfl, At.new _ _ _, Lib.hid (by rw [size_madeCells]; omega), Lib.hid (fun j hj => absurd hj (by omega)), Lib.hid ((Below.refl _ _).alloc (Nat.le_refl _) _)⟩
  case round =>
    obtain ⟨k, ds, hk, rfl, hat, hsz, hds, hb⟩ := hrel
    by_cases hlt : k < n
    · obtain ⟨sb, hsb⟩ := HP.out k hlt
      obtain ⟨rfl, hl1, hlc⟩ := HL.out (by omega)
      have c0 : wr.cell? ⟨S, k, none⟩ = some (.pointer (some ⟨sb, 0, none⟩)) := by rw [(At.below HS.out hb.out lS).cell]; exact hsb
      have c1 : wr.cell? ⟨L, loff + k, none⟩ = some (.int .i32 (z.getD k 0)) := kept hb.out (hlc k hlt)
      have d0 : wr.cell? ⟨w.heap.size, k * 2, none⟩ = some (ds[k * 2]'(by have := hsz.out; omega)) := by rw [hat.cell]; simp
      have d1 : wr.cell? ⟨w.heap.size, k * 2 + 1, none⟩ = some (ds[k * 2 + 1]'(by have := hsz.out; omega)) := by rw [hat.cell]; simp
      have f0 := hat.frozen (k * 2)
      have f1 := hat.frozen (k * 2 + 1)
      have HAT := Lib.hid hat
      have HC0 := Lib.hid hsb
      clear hlc hsb hat
      have hk0 : (0 : Int) ≤ (k : Int) := Int.natCast_nonneg _
      have hk1 : (k : Int) < (n : Int) := by omega
      have hk2 : (k : Int) < (lenL : Int) := by omega
      obtain ⟨lc, hlc⟩ : ∃ lc, lc = z.getD k 0 := ⟨_, rfl⟩
      rw [← hlc] at c1
      go_wp2_with fail
      go_region
      all_goals
        go_wp2_with fail
        refine ⟨⟨k + 1, _, by omega, by go_num, ((HAT.out.set _ _).set _ _).drew, Lib.hid (by simp [hsz.out]), Lib.hid ?_, Lib.hid (((hb.out.setCell (Nat.le_refl _) _).setCell (Nat.le_refl _) _).drew)⟩, by simp [intOf]; omega⟩
        intro j hj
        by_cases e : j = k
        · subst e
          have q := hsz.out
          constructor
          · rw [Array.getElem?_setIfInBounds_ne (by omega), Nat.mul_comm 2 j, Array.getElem?_setIfInBounds_self_of_lt (by omega)]; exact HC0.out.symm
          · rw [show 2 * j + 1 = j * 2 + 1 by omega, Array.getElem?_setIfInBounds_self_of_lt (by simp; omega)]
            first | rfl | simp [List.getD]
        · rw [Array.getElem?_setIfInBounds_ne (by omega), Array.getElem?_setIfInBounds_ne (by omega), Array.getElem?_setIfInBounds_ne (by omega), Array.getElem?_setIfInBounds_ne (by omega)]
          exact hds.out j (by omega)
    · have e : k = n := by omega
      subst e
      have h177 := kept hb.out H1.out
      have f177 := keptF hb.out H1.out H2.out
      have h104 := kept hb.out H3.out
      have f104 := keptF hb.out H3.out H4.out
      have h105 := kept hb.out H5.out
      have f105 := keptF hb.out H5.out H6.out
      have nO : ¬ p = w.heap.size := by omega
      have nO' : ¬ w.heap.size = p := by omega
      have HAT := Lib.hid hat
      clear hat
      have e9 : decide (k < k) = false := by simp
      go_wp2_with fail
      go_end0
      exact ⟨rfl, ⟨ds, At.far HAT.out (p := ⟨p, 177, none⟩) nO' _, hds.out⟩, ⟨⟨some ⟨w.heap.size, 0, none⟩, by simp [go_sem, *], fun _ => rfl⟩, by simp [go_sem, *], by simp [go_sem, *], by simp [go_sem, *], by simp [go_sem, *], by simp [go_sem, *]⟩, ⟨by have := hb.out.size; simp; omega, fun b hb1 h1 h2 => by rw [Below.heap_setCell _ _ _ b (by simpa using h1)]; exact hb.out.block b hb1⟩, (hb.out.mono (by omega)).setCell (by simpa using hB0) _, by have := HAT.out.lt; simp; omega⟩
set_option maxRecDepth 100000 in
theorem z8 (B0 p O off k : Nat) (cur : Value) (Q : Option Addr) (w : World) (hB0 : B0 ≤ p) (hp : PP w p O off k cur (.pointer none)) :
    Calls Tryf.prog 8 #[.pointer (some ⟨p, 0, none⟩), .pointer Q] w fun e w' => e = .returned (.tuple #[]) ∧ PP w' p O off k cur (.pointer Q) ∧ KB w.heap.size p p w w' ∧ Below B0 w w' := by
  obtain ⟨⟨a, h177, ha⟩, f177, h104, f104, h105, f105⟩ := hp
  have HA := Lib.hid ha
  clear ha
  go_enter Tryf.func8, Tryf.ntmps8
  go_wp2_with fail
  go_end0
  exact ⟨rfl, ⟨⟨a, by simp [go_sem, *], HA.out⟩, by simp [go_sem, *], by simp [go_sem, *], by simp [go_sem, *], by simp [go_sem, *], by simp [go_sem, *]⟩, ⟨by simp, fun b hb h1 h2 => by rw [Below.heap_setCell _ _ _ b (by simpa using h1)]⟩, (Below.refl _ _).setCell (by simpa using hB0) _⟩
def SomeBool (w : World) (e : Ending) (w' : World) : Prop := ∃ b, e = .returned (.bool b) ∧ w = w'
set_option maxRecDepth 100000 in
theorem b5 (a0 : Option Addr) (n0 c0 : Nat) (a1 : Option Addr) (n1 c1 : Nat) (b : Bool) (w : World) (m0 : n0 ≤ 9223372036854775807) (m1 : n1 ≤ 9223372036854775807) :
    Calls Tryf.prog 5 #[.slice a0 n0 c0, .slice a1 n1 c1, .bool b] w (SomeBool w) := by
  go_enter Tryf.func5, Tryf.ntmps5
  go_wp2_with fail
  all_goals (try (go_ret; exact ⟨_, rfl, rfl⟩))
theorem copied (w : World) (a : Addr) (n c : Nat) (z : List Int) (hn : n ≤ z.length) (hcell : ∀ i, i < z.length → w.cell? (a.add i) = some (.int .i32 (z.getD i 0))) :
    ∃ w2, (∀ ty, (Builtin.copy_ #[23, 23] ty #[.slice (some ⟨w.heap.size, 0, none⟩) n n, .slice (some a) n c]).run Tryf.prog (w.alloc (.cells (madeCells #[.int .i32 0] n) 21)) = .ok (.int .i64 n) w2) ∧ (∀ i, i < n → w2.cell? ⟨w.heap.size, i, none⟩ = some (.int .i32 (z.getD i 0))) ∧ Below w.heap.size w w2 := by
  have hl : ((z.take n).map (Value.int .i32)).length = n := by simp; omega
  have H := fun ty => run_copy_row (P := Tryf.prog) (w.alloc (.cells (madeCells (Value.int .i32 0).cells n) 21)) 23 23 ty 21 w.heap.size 0 n n a n c (madeCells (Value.int .i32 0).cells n) 21 ((z.take n).map (Value.int .i32)) Tryf.underlying23 (by kernel_rfl) (heap_alloc_new w _) (by rw [hl]; simp) (fun j v hv => by
      have hj : j < n := by
        have := (List.getElem?_eq_some_iff.1 hv).1
        omega
      obtain ⟨b, off, rfl⟩ : ∃ b off, a = ⟨b, off, none⟩ := spot_none (hcell 0 (by omega))
      have hc := hcell j (by omega)
      rw [add_none] at hc ⊢
      rw [kAlloc hc]
      have hjz : j < z.length := by omega
      have hv2 : v = .int .i32 (z.getD j 0) := by
        rw [List.getElem?_map, List.getElem?_take_of_lt hj, List.getElem?_eq_getElem hjz] at hv
        simp only [Option.map_some, Option.some.injEq] at hv
        rw [← hv]
        simp [List.getD, hjz]
      rw [hv2]) (by rw [hl, size_madeCells]; omega) (fun v hv => by obtain ⟨x, _, rfl⟩ := List.mem_map.1 hv; rfl)
  rw [hl] at H
  refine ⟨_, H, fun i hi => ?_, below_setRow ((Below.refl _ _).alloc (Nat.le_refl _) _) (Nat.le_refl _) _⟩
  rw [cell_setRow_same _ _ _ _ _ _ _ (heap_alloc_new w _)]
  have hiz : i < z.length := by omega
  simp [hiz]
  rw [List.getElem?_append_left (by simp; omega), List.getElem?_take_of_lt hi]
  simp [hiz]
end Go.Proofs.YthgcchgpplblbaaFmt
