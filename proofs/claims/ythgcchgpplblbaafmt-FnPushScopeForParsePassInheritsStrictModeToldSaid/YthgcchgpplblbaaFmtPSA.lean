/- Proved here: small contracts of the law FnPushScopeForParsePassInheritsStrictMode. Conditions as stated. -/
import Derived.Test.YthgcchgpplblbaaFmtBase
import Derived.WalkKit
import Derived.WalkSpells
import Derived.WalkLawsBesides
import Derived.Lib.Hide
import Derived.Lib.SliceRun
import Derived.Deep.RegionWith
import Derived.OwnWalk
import Derived.Laws.OwnMore
import Derived.BigRegion
import Derived.Carry
namespace Go.Proofs.YthgcchgpplblbaaFmt
open Go.RowKit
set_option linter.unusedSimpArgs false
set_option linter.unusedVariables false

/-- What the copy 'cloneO' hands back of a slice that is not nil. -/
def cloneOPost (len : Nat) (zs : List Int) (w : World) (e : Ending) (w' : World) : Prop :=
  ∃ cs, e = .returned (.slice (some ⟨w.heap.size, 0, none⟩) len len) ∧ At w' w.heap.size 5 cs ∧ cs.size = len ∧ (∀ i, i < len → cs[i]? = some (.int .u8 (zs.getD i 0))) ∧ Below w.heap.size w w'
def cloneORel (len : Nat) (zs : List Int) (w : World) (i : Value) (wr : World) : Prop :=
  ∃ (k : Nat) (cs : Array Value), k ≤ len ∧ i = .int .i64 k ∧ At wr w.heap.size 5 cs ∧ cs.size = len ∧ (∀ j, j < k → cs[j]? = some (.int .u8 (zs.getD j 0))) ∧ Below w.heap.size w wr
theorem cloneO_nil (w : World) : Calls Tryf.prog 14 #[.slice none 0 0] w fun e w' => e = .returned (.slice none 0 0) ∧ w = w' := by
  have qT : ∀ (w : World) (a : Option Addr) (n c n' c' : Nat), (binOp .eql 22 (.slice a n c) (.slice none n' c')).run Tryf.prog w = .ok (.bool a.isNone) w := fun w a n c n' c' => Lib.run_eql_slice_nil w 22 5 a n c n' c' Tryf.underlying22
  go_enter Tryf.func14, Tryf.ntmps14
  go_wp2_with fail
  go_ret
  exact ⟨rfl, rfl⟩
set_option maxRecDepth 100000 in
set_option maxHeartbeats 1000000 in
theorem cloneO_some (x : Addr) (len cap : Nat) (zs : List Int) (w : World) (hz : len ≤ zs.length) (hcell : ∀ i, i < zs.length → w.cell? (x.add i) = some (.int .u8 (zs.getD i 0))) (hlen : len ≤ 1048576) :
    Calls Tryf.prog 14 #[.slice (some x) len cap] w (cloneOPost len zs w) := by
  have qT : ∀ (w : World) (a : Option Addr) (n c n' c' : Nat), (binOp .eql 22 (.slice a n c) (.slice none n' c')).run Tryf.prog w = .ok (.bool a.isNone) w := fun w a n c n' c' => Lib.run_eql_slice_nil w 22 5 a n c n' c' Tryf.underlying22
  have hmk := made (P := Tryf.prog) (t := 22) (e := 5) (z := .int .u8 0) (sz := 1) (by_ := 1) Tryf.underlying22 (by kernel_rfl) w len (by omega) (by omega)
  rw [Nat.mul_one] at hmk
  have HC := Lib.hid hcell
  clear hcell
  go_enter Tryf.func14, Tryf.ntmps14
  go_wp2_with fail
  go_loopw [4] (fun i wr => cloneORel len zs w i wr) (fun i _ => len - (intOf i).toNat)
  case atStart => exact ⟨0, _, Nat.zero_le _, rfl, At.new _ _ _, by simp [size_madeCells, Value.cells], fun j hj => absurd hj (by omega), (Below.refl _ _).alloc (Nat.le_refl _) _⟩
  case round =>
    obtain ⟨k, cs, hk, rfl, hat, hsz, hcs, hb⟩ := hrel
    by_cases hlt : k < len
    · have hc := HC.out k (by omega)
      obtain ⟨b, off, rfl⟩ := spot_none (HC.out 0 (by omega))
      rw [add_none] at hc
      have hc1 : wr.cell? ⟨b, off + k, none⟩ = some (.int .u8 (zs.getD k 0)) := by
        exact kept hb hc
      have hd : wr.cell? ⟨w.heap.size, k, none⟩ = some cs[k] := by rw [hat.cell k]; simp [hsz, hlt]
      have hf := hat.frozen k
      clear hc
      have HAT := Lib.hid hat
      have HCS := Lib.hid hcs
      have HSZ := Lib.hid hsz
      clear hat hcs
      go_wp2_with fail
      go_roundw
      case rel =>
        refine ⟨k + 1, _, by omega, by go_num, HAT.out.set k _, by simp [HSZ.out], ?_, hb.setCell (Nat.le_refl _) _⟩
        intro j hj
        by_cases e : j = k
        · subst e; simp [HSZ.out, hlt]
        · rw [Array.getElem?_setIfInBounds_ne (by omega)]; exact HCS.out j (by omega)
      case measure => simp [intOf]; omega
    · have e : k = len := by omega
      subst e
      have HAT := Lib.hid hat
      have HCS := Lib.hid hcs
      have HSZ := Lib.hid hsz
      clear hat hcs hsz
      go_wp2_with fail
      go_ret
      exact ⟨cs, rfl, HAT.out, HSZ.out, HCS.out, hb⟩

namespace PS
abbrev il (l : Int) : Value := .int .i32 l
/-- A scope's cells: parent, children, members' map, use-strict location, strict mode, kind. -/
abbrev scv (pv ch : Value) (mb : Nat) (ul sm kd : Int) : Array Value := #[.pointer none, pv, ch, .map (some mb), .slice none 0 0, .slice none 0 0, il ul, il 0, .int .u32 4294967295, .int .u32 4294967295, .bool false, .bool false, .bool false, .bool false, .int .u8 sm, .int .u8 kd]
/-- The parser's two cells. -/
structure PQ (w : World) (p : Nat) (cur v : Value) : Prop where
  c : w.cell? ⟨p, 104, none⟩ = some cur
  cf : w.frozen? ⟨p, 104, none⟩ = false
  s : w.cell? ⟨p, 177, none⟩ = some v
  sf : w.frozen? ⟨p, 177, none⟩ = false
  ty : ∃ cs, At w p 186 cs
noncomputable def pz0 : Array Value := zeroOf Tryf.prog 186
theorem pz0_size : pz0.size = 353 := by kernel_rfl
theorem pz0_104 : pz0[104]? = some (.pointer none) := by kernel_rfl
theorem pz0_177 : pz0[177]? = some (.slice none 0 0) := by kernel_rfl
attribute [local go_sem] pz0_size
theorem wpRun0 {P : Program} {ops : Array Oper} {rest : List Oper} {o : Oper} {a : Act} {w : World} {Q : Exit → Act → World → Prop} (hgd : o.guard = none) (v : Value)
    (hr : (execOp a.eval o).run P w = .ok (.value v) w) (h : wpList P ops Q rest (a.put o.dst v) w) : wpList P ops Q (o :: rest) a w := wpList_run hgd v w hr h
def NPp (w : World) (e : Ending) (w' : World) : Prop := e = .returned (.pointer (some ⟨w.heap.size, 0, none⟩)) ∧ PQ w' w.heap.size (.pointer none) (.slice none 0 0) ∧ Below w.heap.size w w' ∧ w.heap.size < w'.heap.size
set_option maxRecDepth 100000 in
theorem newP (w : World) : Calls Tryf.prog 15 #[] w (NPp w) := by
  go_enter Tryf.func15, Tryf.ntmps15
  go_wp2_with (refine wpRun0 (o := ⟨some 1, .build 186 _, _, _, _, _⟩) rfl (.agg pz0) ?hr ?_; case hr => kernel_rfl)
  have hat := At.new w 186 pz0
  exact bodyPost_ret (v := .pointer (some ⟨w.heap.size, 0, none⟩)) (by simp [results, Tryf.results15, go_sem]) rfl ⟨rfl, ⟨by rw [hat.cell]; exact pz0_104, hat.frozen _, by rw [hat.cell]; exact pz0_177, hat.frozen _, ⟨_, hat⟩⟩, (Below.refl _ _).alloc (Nat.le_refl _) _, by simp⟩
def ZB (w : World) (e : Ending) (w' : World) : Prop := ∃ b : Bool, e = .returned (.bool b) ∧ w = w'
set_option maxRecDepth 100000 in
theorem zz57 (a1 a2 a3 : Int) (a : Option Addr) (n c : Nat) (w : World) (h : n ≤ 9223372036854775807) : Calls Tryf.prog 13 #[.slice a n c, il a1, .int .u8 a2, il a3] w (ZB w) := by
  have g4 : (0 : Int) ≤ (n : Int) ∧ (n : Int) ≤ 9223372036854775807 := by omega
  obtain ⟨g4a, g4b⟩ := g4
  go_enter Tryf.func13, Tryf.ntmps13
  go_wp2_with fail
  all_goals (go_ret; exact ⟨_, rfl, rfl⟩)
theorem curS (p : Nat) (cur : Option Addr) (v : Value) (w : World) (h : PQ w p (.pointer cur) v) : Calls Tryf.prog 18 #[.pointer (some ⟨p, 0, none⟩)] w fun e w' => e = .returned (.pointer cur) ∧ w = w' := by
  have c := h.c
  have lp := World.block_lt_of_cell? _ _ c
  clear h
  go_enter Tryf.func18, Tryf.ntmps18
  go_wp2_with fail
  go_ret
  exact ⟨rfl, rfl⟩
theorem lenS (p n c : Nat) (a : Option Addr) (cur : Value) (w : World) (h : PQ w p cur (.slice a n c)) : Calls Tryf.prog 19 #[.pointer (some ⟨p, 0, none⟩)] w fun e w' => e = .returned (.int .i64 n) ∧ w = w' := by
  have c := h.s
  have lp := World.block_lt_of_cell? _ _ c
  clear h
  go_enter Tryf.func19, Tryf.ntmps19
  go_wp2_with fail
  go_ret
  exact ⟨rfl, rfl⟩
set_option maxRecDepth 100000 in
theorem pop (p b mb : Nat) (pv : Option Addr) (ch : Value) (v : Value) (ul sm kd : Int) (w : World) (h : PQ w p (.pointer (some ⟨b, 0, none⟩)) v) (hs : At w b 41 (scv (.pointer pv) ch mb ul sm kd)) :
    Calls Tryf.prog 16 #[.pointer (some ⟨p, 0, none⟩)] w fun e w' => e = .returned (.tuple #[]) ∧ w' = w.setCell ⟨p, 104, none⟩ (.pointer pv) := by
  have c := h.c
  have cf := h.cf
  have lp := World.block_lt_of_cell? _ _ c
  have s1 : w.cell? ⟨b, 1, none⟩ = some (.pointer pv) := by rw [hs.cell]; rfl
  have s11 : w.cell? ⟨b, 11, none⟩ = some (.bool false) := by rw [hs.cell]; rfl
  have lb := hs.lt
  clear h hs
  have inner : Calls Tryf.prog 21 #[.pointer (some ⟨p, 0, none⟩)] w fun e w' => e = .returned (.tuple #[]) ∧ w' = w.setCell ⟨p, 104, none⟩ (.pointer pv) := by
    go_enter Tryf.func21, Tryf.ntmps21
    go_wp2_with fail
    go_end0
    exact ⟨rfl, rfl⟩
  have HI := Lib.hid inner
  clear inner c cf s1 s11
  go_enter Tryf.func16, Tryf.ntmps16
  go_wp2_with fail
  refine HI.out.mono ?_
  rintro e w' ⟨rfl, rfl⟩
  go_wp2_with fail
  go_end0
  exact ⟨rfl, rfl⟩
end PS
end Go.Proofs.YthgcchgpplblbaaFmt
