/- Proved here: the contracts of the small helpers and of buildObject. Conditions as stated. -/
import Derived.Test.YtjlmaingeobgeaaDoorOSE
import Derived.WalkKit
import Derived.WalkSpells
import Derived.WalkLawsBesides
import Derived.Lib.Hide
import Derived.Lib.SliceRun
import Derived.Deep.RegionWith
import Derived.OwnWalk
import Derived.Laws.OwnMore
import Derived.BigRegion
import Derived.Deep.RegionHeld3
import Derived.Carry
namespace Go.Proofs.YtjlmaingeobgeaaDoor
open Go.RowKit
set_option linter.unusedSimpArgs false
set_option linter.unusedVariables false

def ZB (len : Nat) (w : World) (e : Ending) (w' : World) : Prop := ∃ b : Bool, e = .returned (.bool b) ∧ w = w'
theorem zzB (a0 : Int) (a1 : Bool) (a : Option Addr) (len cap : Nat) (a3 : Bool) (w : World) (hlen : len ≤ 4611686018427387904) : Calls Tryd.prog 26 #[.int .i32 a0, .bool a1, .slice a len cap, .bool a3] w (ZB len w) := by
  have h0 : (0 : Int) ≤ (len : Int) := Int.natCast_nonneg _
  have h1 : (len : Int) ≤ 4611686018427387904 := by omega
  by_cases h : (1048576 : Int) < (len : Int)
  · go_enter Tryd.func26, Tryd.ntmps26
    go_wp2_with fail
    go_ret
    exact ⟨_, rfl, rfl⟩
  · go_enter Tryd.func26, Tryd.ntmps26
    go_wp2_with fail
    go_ret
    exact ⟨_, rfl, rfl⟩
theorem fMask (b : Bool) (w : World) : Calls Tryd.prog 30 #[.bool b, .bool false, .bool false] w fun e w' => e = .returned (.int .u64 (if b then 35184372088832 else 0)) ∧ w = w' := by
  cases b
  · go_enter Tryd.func30, Tryd.ntmps30
    go_wp2_with fail
    go_ret
    exact ⟨rfl, rfl⟩
  · go_enter Tryd.func30, Tryd.ntmps30
    go_wp2_with fail
    go_ret
    exact ⟨by rfl, rfl⟩
theorem has0 (w : World) : Calls Tryd.prog 78 #[.int .u64 0, .int .u64 35184372088832] w fun e w' => e = .returned (.bool false) ∧ w = w' := by
  go_enter Tryd.func78, Tryd.ntmps78
  go_wp2_with fail
  go_ret
  exact ⟨by first | rfl | kernel_rfl, rfl⟩
theorem has1 (w : World) : Calls Tryd.prog 78 #[.int .u64 35184372088832, .int .u64 35184372088832] w fun e w' => e = .returned (.bool true) ∧ w = w' := by
  go_enter Tryd.func78, Tryd.ntmps78
  go_wp2_with fail
  go_ret
  exact ⟨by first | rfl | kernel_rfl, rfl⟩

/-- What the copy 'cloneB' hands back of a slice that is not nil. -/
def cloneBPost (len : Nat) (zs : List Bool) (w : World) (e : Ending) (w' : World) : Prop :=
  ∃ cs, e = .returned (.slice (some ⟨w.heap.size, 0, none⟩) len len) ∧ At w' w.heap.size 4 cs ∧ cs.size = len ∧ (∀ i, i < len → cs[i]? = some (.bool (zs.getD i false))) ∧ Below w.heap.size w w'
def cloneBRel (len : Nat) (zs : List Bool) (w : World) (i : Value) (wr : World) : Prop :=
  ∃ (k : Nat) (cs : Array Value), k ≤ len ∧ i = .int .i64 k ∧ At wr w.heap.size 4 cs ∧ cs.size = len ∧ (∀ j, j < k → cs[j]? = some (.bool (zs.getD j false))) ∧ Below w.heap.size w wr
theorem cloneB_nil (w : World) : Calls Tryd.prog 27 #[.slice none 0 0] w fun e w' => e = .returned (.slice none 0 0) ∧ w = w' := by
  have qT : ∀ (w : World) (a : Option Addr) (n c n' c' : Nat), (binOp .eql 56 (.slice a n c) (.slice none n' c')).run Tryd.prog w = .ok (.bool a.isNone) w := fun w a n c n' c' => Lib.run_eql_slice_nil w 56 4 a n c n' c' Tryd.underlying56
  go_enter Tryd.func27, Tryd.ntmps27
  go_wp2_with fail
  go_ret
  exact ⟨rfl, rfl⟩
set_option maxRecDepth 100000 in
set_option maxHeartbeats 1000000 in
theorem cloneB_some (x : Addr) (len cap : Nat) (zs : List Bool) (w : World) (hz : len ≤ zs.length) (hcell : ∀ i, i < zs.length → w.cell? (x.add i) = some (.bool (zs.getD i false))) (hlen : len ≤ 1048576) :
    Calls Tryd.prog 27 #[.slice (some x) len cap] w (cloneBPost len zs w) := by
  have qT : ∀ (w : World) (a : Option Addr) (n c n' c' : Nat), (binOp .eql 56 (.slice a n c) (.slice none n' c')).run Tryd.prog w = .ok (.bool a.isNone) w := fun w a n c n' c' => Lib.run_eql_slice_nil w 56 4 a n c n' c' Tryd.underlying56
  have hmk := made (P := Tryd.prog) (t := 56) (e := 4) (z := .bool false) (sz := 1) (by_ := 1) Tryd.underlying56 (by kernel_rfl) w len (by omega) (by omega)
  rw [Nat.mul_one] at hmk
  have HC := Lib.hid hcell
  clear hcell
  go_enter Tryd.func27, Tryd.ntmps27
  go_wp2_with fail
  go_loopw [4] (fun i wr => cloneBRel len zs w i wr) (fun i _ => len - (intOf i).toNat)
  case atStart => exact ⟨0, _, Nat.zero_le _, rfl, At.new _ _ _, by simp [size_madeCells, Value.cells], fun j hj => absurd hj (by omega), (Below.refl _ _).alloc (Nat.le_refl _) _⟩
  case round =>
    obtain ⟨k, cs, hk, rfl, hat, hsz, hcs, hb⟩ := hrel
    by_cases hlt : k < len
    · have hc := HC.out k (by omega)
      obtain ⟨b, off, rfl⟩ := spot_none (HC.out 0 (by omega))
      rw [add_none] at hc
      have hc1 : wr.cell? ⟨b, off + k, none⟩ = some (.bool (zs.getD k false)) := by
        exact kept hb hc
      have hd : wr.cell? ⟨w.heap.size, k, none⟩ = some cs[k] := by rw [hat.cell k]; simp [hsz, hlt]
      have hf := hat.frozen k
      clear hc
      have HAT := Lib.hid hat
      have HCS := Lib.hid hcs
      have HSZ := Lib.hid hsz
      clear hat hcs
      go_wp2_with fail
      go_roundw
      case rel =>
        refine ⟨k + 1, _, by omega, by go_num, HAT.out.set k _, by simp [HSZ.out], ?_, hb.setCell (Nat.le_refl _) _⟩
        intro j hj
        by_cases e : j = k
        · subst e; simp [HSZ.out, hlt]
        · rw [Array.getElem?_setIfInBounds_ne (by omega)]; exact HCS.out j (by omega)
      case measure => simp [intOf]; omega
    · have e : k = len := by omega
      subst e
      have HAT := Lib.hid hat
      have HCS := Lib.hid hcs
      have HSZ := Lib.hid hsz
      clear hat hcs hsz
      go_wp2_with fail
      go_ret
      exact ⟨cs, rfl, HAT.out, HSZ.out, HCS.out, hb⟩

theorem set12 (cs : Array Value) (k n : Nat) (hk : k < n) (hs : cs.size = n * 12) (a0 a1 a2 a3 a4 a5 a6 a7 a8 a9 a10 a11 : Value) (j t : Nat) (ht : t < 12) :
    ((((((((((((cs.setIfInBounds (k * 12) a0).setIfInBounds (k * 12 + 1) a1).setIfInBounds (k * 12 + 2) a2).setIfInBounds (k * 12 + 3) a3).setIfInBounds (k * 12 + 4) a4).setIfInBounds (k * 12 + 5) a5).setIfInBounds (k * 12 + 6) a6).setIfInBounds (k * 12 + 7) a7).setIfInBounds (k * 12 + 8) a8).setIfInBounds (k * 12 + 9) a9).setIfInBounds (k * 12 + 10) a10).setIfInBounds (k * 12 + 11) a11)[j * 12 + t]? = if j = k then [a0, a1, a2, a3, a4, a5, a6, a7, a8, a9, a10, a11][t]? else cs[j * 12 + t]? := by
  simp only [Array.getElem?_setIfInBounds, Array.size_setIfInBounds]
  by_cases h : j = k
  · subst h
    rw [if_pos rfl]
    match t, ht with
    | 0, _ => simp; omega
    | 1, _ => simp; omega
    | 2, _ => simp; omega
    | 3, _ => simp; omega
    | 4, _ => simp; omega
    | 5, _ => simp; omega
    | 6, _ => simp; omega
    | 7, _ => simp; omega
    | 8, _ => simp; omega
    | 9, _ => simp; omega
    | 10, _ => simp; omega
    | 11, _ => simp; omega
  · rw [if_neg h]
    rw [if_neg (by omega), if_neg (by omega), if_neg (by omega), if_neg (by omega), if_neg (by omega), if_neg (by omega), if_neg (by omega), if_neg (by omega), if_neg (by omega), if_neg (by omega), if_neg (by omega), if_neg (by omega)]
/-- The pointers' and the properties' rows, filled up to k. -/
structure Fil (N : Nat) (sp : Nat → Bool) (w : World) (k : Nat) (q : Nat → Nat) (wr : World) : Prop where
  kN : k ≤ N
  low : Below w.heap.size w wr
  nums : ∃ cs, At wr w.heap.size 212 cs ∧ cs.size = N ∧ ∀ j, j < k → cs[j]? = some (.pointer (some ⟨q j, 0, none⟩))
  prps : ∃ cs, At wr (w.heap.size + 1) 231 cs ∧ cs.size = N * 12 ∧ ∀ j, j < k → ∀ t, t < 12 → cs[j * 12 + t]? = (prp (q j) (kd (sp j)))[t]?
theorem filNext {N : Nat} {sp : Nat → Bool} {w : World} {k : Nat} {q : Nat → Nat} {wr : World} (h : Fil N sp w k q wr) (hk : k < N) (P : Nat) (kk : Int) (hkk : kk = kd (sp k)) (o1 o2 : Obj) :
    Fil N sp w (k + 1) (fun j => if j = k then P else q j) (((((((((((((((wr.setCell ⟨w.heap.size, k, none⟩ (.pointer (some ⟨P, 0, none⟩))).setCell ⟨w.heap.size + 1, k * 12, none⟩ (.pointer none)).setCell ⟨w.heap.size + 1, k * 12 + 1, none⟩ (.nilIface)).setCell ⟨w.heap.size + 1, k * 12 + 2, none⟩ (.int .i32 0)).setCell ⟨w.heap.size + 1, k * 12 + 3, none⟩ (.iface 212 (.pointer (some ⟨P, 0, none⟩)))).setCell ⟨w.heap.size + 1, k * 12 + 4, none⟩ (.int .i32 0)).setCell ⟨w.heap.size + 1, k * 12 + 5, none⟩ (.nilIface)).setCell ⟨w.heap.size + 1, k * 12 + 6, none⟩ (.int .i32 0)).setCell ⟨w.heap.size + 1, k * 12 + 7, none⟩ (.slice none 0 0)).setCell ⟨w.heap.size + 1, k * 12 + 8, none⟩ (.int .i32 0)).setCell ⟨w.heap.size + 1, k * 12 + 9, none⟩ (.int .i32 0)).setCell ⟨w.heap.size + 1, k * 12 + 10, none⟩ (.int .u8 kk)).setCell ⟨w.heap.size + 1, k * 12 + 11, none⟩ (.int .u8 0)).alloc o1).alloc o2) := by
  obtain ⟨hkN, hb, ⟨cs1, h1, h2, h3⟩, ⟨cs2, h4, h5, h6⟩⟩ := h
  have hbs := hb.size
  refine ⟨by omega, (((((((((((((((hb.setCell (by simp) _).setCell (by simp) _).setCell (by simp) _).setCell (by simp) _).setCell (by simp) _).setCell (by simp) _).setCell (by simp) _).setCell (by simp) _).setCell (by simp) _).setCell (by simp) _).setCell (by simp) _).setCell (by simp) _).setCell (by simp) _).alloc (by simp [World.setCell]; omega) _).alloc (by simp [World.setCell]; omega) _), ⟨cs1.setIfInBounds k (.pointer (some ⟨P, 0, none⟩)), (((((((((((((((h1.set k _).far (by simp) _).far (by simp) _).far (by simp) _).far (by simp) _).far (by simp) _).far (by simp) _).far (by simp) _).far (by simp) _).far (by simp) _).far (by simp) _).far (by simp) _).far (by simp) _).alloc _).alloc _), by simp [h2], ?_⟩, ⟨_, (((((((((((((((h4.far (by simp) _).set _ _).set _ _).set _ _).set _ _).set _ _).set _ _).set _ _).set _ _).set _ _).set _ _).set _ _).set _ _).alloc _).alloc _), by simp [h5], ?_⟩⟩
  · intro j hj
    by_cases e : j = k
    · subst e; simp [h2, hk]
    · rw [Array.getElem?_setIfInBounds_ne (fun e' => e e'.symm), if_neg e]
      exact h3 j (by omega)
  · intro j hj t ht
    rw [set12 cs2 k N hk h5 _ _ _ _ _ _ _ _ _ _ _ _ j t ht]
    by_cases e : j = k
    · subst e; simp [prp, hkk]
    · rw [if_neg e, if_neg e]
      exact h6 j (by omega) t ht
def BL (N : Nat) (sp : Nat → Bool) (w : World) (i : Value) (wr : World) : Prop := ∃ (k : Nat) (q : Nat → Nat), i = .int .i64 k ∧ Hid (Fil N sp w k q wr) ∧ k ≤ N
def BOP (N : Nat) (sp : Nat → Bool) (sl : Bool) (w : World) (e : Ending) (w' : World) : Prop :=
  ∃ (eo : Nat) (q : Nat → Nat), e = .returned (.tuple #[.pointer (some ⟨eo, 0, none⟩), .slice (some ⟨w.heap.size, 0, none⟩) N N]) ∧ w.heap.size + 1 < eo ∧ At w' eo 71 #[.slice (some ⟨w.heap.size + 1, 0, none⟩) N N, .int .i32 0, .int .i32 0, .bool sl, .bool false] ∧ Fil N sp w N q w'
theorem info231z : (Tryd.prog.info? 231).map (fun i => (i.zero, i.size, i.bytes)) = some (some (.agg #[.pointer none, .nilIface, .int .i32 0, .nilIface, .int .i32 0, .nilIface, .int .i32 0, .slice none 0 0, .int .i32 0, .int .i32 0, .int .u8 0, .int .u8 0]), 12, 120) := by kernel_rfl
theorem madeSome (z : Array Value) (n i : Nat) (h : i < n) : ∃ v, (madeCells z n)[i]? = some v := by
  have : i < (madeCells z n).size := by rw [size_madeCells]; exact h
  exact ⟨_, Array.getElem?_eq_getElem this⟩
set_option maxRecDepth 100000 in
set_option maxHeartbeats 8000000 in
theorem buildO (N sb : Nat) (a : Option Addr) (c : Nat) (sp : Nat → Bool) (sl : Bool) (w : World) (hN : N ≤ 65536) (ha : 0 < N → a = some ⟨sb, 0, none⟩) (hs : ∀ j, j < N → w.cell? ⟨sb, j, none⟩ = some (.bool (sp j))) :
    Calls Tryd.prog 28 #[.slice a N c, .bool sl] w (BOP N sp sl w) := by
  have hN1 : (N : Int) ≤ 65536 := by omega
  have hN0 : (0 : Int) ≤ (N : Int) := Int.natCast_nonneg _
  obtain ⟨W1, hW1⟩ : ∃ W1, W1 = w.alloc (.cells (madeCells #[.pointer none] N) 212) := ⟨_, rfl⟩
  have m1 : (Instr.makeSlice 60 (.int .i64 (N : Int)) (.int .i64 (N : Int))).run Tryd.prog w = .ok (.slice (some ⟨w.heap.size, 0, none⟩) N N) W1 := by
    have := made (P := Tryd.prog) (t := 60) (e := 212) (z := .pointer none) (sz := 1) (by_ := 8) Tryd.underlying60 (by kernel_rfl) w N (by omega) (by omega)
    rw [Nat.mul_one] at this
    rw [hW1]
    exact this
  obtain ⟨W2, hW2⟩ : ∃ W2, W2 = W1.alloc (.cells (madeCells #[.pointer none, .nilIface, .int .i32 0, .nilIface, .int .i32 0, .nilIface, .int .i32 0, .slice none 0 0, .int .i32 0, .int .i32 0, .int .u8 0, .int .u8 0] (N * 12)) 231) := ⟨_, rfl⟩
  have z1 : W1.heap.size = w.heap.size + 1 := by rw [hW1]; simp
  have m2 : (Instr.makeSlice 69 (.int .i64 (N : Int)) (.int .i64 (N : Int))).run Tryd.prog W1 = .ok (.slice (some ⟨w.heap.size + 1, 0, none⟩) N N) W2 := by
    have := made (P := Tryd.prog) (t := 69) (e := 231) Tryd.underlying69 info231z W1 N (by omega) (by omega)
    rw [hW2]
    rw [z1] at this
    exact this
  have F0 := Lib.hid (show Fil N sp w 0 (fun _ => 0) W2 from by
    have b1 : Below w.heap.size w W1 := by rw [hW1]; exact (Below.refl _ _).alloc (Nat.le_refl _) _
    have a1 : At W1 w.heap.size 212 (madeCells #[.pointer none] N) := by rw [hW1]; exact At.new _ _ _
    refine ⟨Nat.zero_le _, by rw [hW2]; exact b1.alloc b1.size _, ⟨_, by rw [hW2]; exact a1.alloc _, by rw [size_madeCells], fun j hj => absurd hj (by omega)⟩, ⟨madeCells #[.pointer none, .nilIface, .int .i32 0, .nilIface, .int .i32 0, .nilIface, .int .i32 0, .slice none 0 0, .int .i32 0, .int .i32 0, .int .u8 0, .int .u8 0] (N * 12), ?_, by rw [size_madeCells], fun j hj => absurd hj (by omega)⟩⟩
    rw [hW2, ← z1]
    exact At.new _ _ _)
  clear hW1 hW2 z1
  have HA := Lib.hid ha
  have HS := Lib.hid hs
  clear ha hs
  go_enter Tryd.func28, Tryd.ntmps28
  go_wp2_with fail
  go_loopw [9] (fun i wr => BL N sp w i wr) (fun i _ => N - (intOf i).toNat)
  case atStart => exact ⟨0, _, rfl, F0, Nat.zero_le _⟩
  case round =>
    obtain ⟨k, q, rfl, HF, hk⟩ := hrel
    clear F0 m1 m2
    by_cases hlt : k < N
    · obtain ⟨_, hb, ⟨cs1, h1, h2, h3⟩, ⟨cs2, h4, h5, h6⟩⟩ := HF.out
      obtain rfl := HA.out (by omega)
      have s0 := kept hb (HS.out k hlt)
      have ls : sb < w.heap.size := World.block_lt_of_cell? _ _ (HS.out k hlt)
      obtain ⟨y0, p0⟩ : ∃ v, wr.cell? ⟨w.heap.size, k, none⟩ = some v := ⟨_, by rw [h1.cell k]; exact Array.getElem?_eq_getElem (by omega)⟩
      have f0 := h1.frozen k
      have l1 := h1.lt
      have l2 := h4.lt
      obtain ⟨y1, p1⟩ : ∃ v, wr.cell? ⟨w.heap.size + 1, k * 12, none⟩ = some v := ⟨_, by rw [h4.cell]; exact Array.getElem?_eq_getElem (by omega)⟩
      have f1 := h4.frozen (k * 12)
      obtain ⟨y2, p2⟩ : ∃ v, wr.cell? ⟨w.heap.size + 1, k * 12 + 1, none⟩ = some v := ⟨_, by rw [h4.cell]; exact Array.getElem?_eq_getElem (by omega)⟩
      have f2 := h4.frozen (k * 12 + 1)
      obtain ⟨y3, p3⟩ : ∃ v, wr.cell? ⟨w.heap.size + 1, k * 12 + 2, none⟩ = some v := ⟨_, by rw [h4.cell]; exact Array.getElem?_eq_getElem (by omega)⟩
      have f3 := h4.frozen (k * 12 + 2)
      obtain ⟨y4, p4⟩ : ∃ v, wr.cell? ⟨w.heap.size + 1, k * 12 + 3, none⟩ = some v := ⟨_, by rw [h4.cell]; exact Array.getElem?_eq_getElem (by omega)⟩
      have f4 := h4.frozen (k * 12 + 3)
      obtain ⟨y5, p5⟩ : ∃ v, wr.cell? ⟨w.heap.size + 1, k * 12 + 4, none⟩ = some v := ⟨_, by rw [h4.cell]; exact Array.getElem?_eq_getElem (by omega)⟩
      have f5 := h4.frozen (k * 12 + 4)
      obtain ⟨y6, p6⟩ : ∃ v, wr.cell? ⟨w.heap.size + 1, k * 12 + 5, none⟩ = some v := ⟨_, by rw [h4.cell]; exact Array.getElem?_eq_getElem (by omega)⟩
      have f6 := h4.frozen (k * 12 + 5)
      obtain ⟨y7, p7⟩ : ∃ v, wr.cell? ⟨w.heap.size + 1, k * 12 + 6, none⟩ = some v := ⟨_, by rw [h4.cell]; exact Array.getElem?_eq_getElem (by omega)⟩
      have f7 := h4.frozen (k * 12 + 6)
      obtain ⟨y8, p8⟩ : ∃ v, wr.cell? ⟨w.heap.size + 1, k * 12 + 7, none⟩ = some v := ⟨_, by rw [h4.cell]; exact Array.getElem?_eq_getElem (by omega)⟩
      have f8 := h4.frozen (k * 12 + 7)
      obtain ⟨y9, p9⟩ : ∃ v, wr.cell? ⟨w.heap.size + 1, k * 12 + 8, none⟩ = some v := ⟨_, by rw [h4.cell]; exact Array.getElem?_eq_getElem (by omega)⟩
      have f9 := h4.frozen (k * 12 + 8)
      obtain ⟨y10, p10⟩ : ∃ v, wr.cell? ⟨w.heap.size + 1, k * 12 + 9, none⟩ = some v := ⟨_, by rw [h4.cell]; exact Array.getElem?_eq_getElem (by omega)⟩
      have f10 := h4.frozen (k * 12 + 9)
      obtain ⟨y11, p11⟩ : ∃ v, wr.cell? ⟨w.heap.size + 1, k * 12 + 10, none⟩ = some v := ⟨_, by rw [h4.cell]; exact Array.getElem?_eq_getElem (by omega)⟩
      have f11 := h4.frozen (k * 12 + 10)
      obtain ⟨y12, p12⟩ : ∃ v, wr.cell? ⟨w.heap.size + 1, k * 12 + 11, none⟩ = some v := ⟨_, by rw [h4.cell]; exact Array.getElem?_eq_getElem (by omega)⟩
      have f12 := h4.frozen (k * 12 + 11)
      have H1 := Lib.hid h1
      have H2 := Lib.hid h2
      have H3 := Lib.hid h3
      have H4 := Lib.hid h4
      have H5 := Lib.hid h5
      have H6 := Lib.hid h6
      have HB := Lib.hid hb
      have ne1 : ¬ sb = w.heap.size := by omega
      have ne2 : ¬ sb = wr.heap.size := by omega
      have zr : w.heap.size + 1 < wr.heap.size := l2
      have ne3 : ¬ w.heap.size + 1 = w.heap.size := by omega
      have lsr : sb < wr.heap.size := by omega
      have lsr1 : sb < wr.heap.size + 1 := by omega
      have lo1 : w.heap.size + 1 < wr.heap.size + 1 := by omega
      have lo2 : w.heap.size < wr.heap.size + 1 := by omega
      have hkN : (k : Int) < (N : Int) := by omega
      have HFF := HF
      clear h1 h2 h3 h4 h5 h6 hb HF
      obtain ⟨S, hS⟩ : ∃ S, S = sp k := ⟨_, rfl⟩
      rw [← hS] at s0
      have HSK := Lib.hid hS
      clear hS
      cases S
      · go_wp2_with fail
        go_roundw
        case rel => exact ⟨k + 1, fun j => if j = k then wr.heap.size else q j, by go_num, Lib.hid (filNext HFF.out hlt wr.heap.size 0 (by rw [← HSK.out]; rfl) _ _), by omega⟩
        case measure => simp [intOf]; omega
      · go_wp2_with fail
        go_roundw
        case rel => exact ⟨k + 1, fun j => if j = k then wr.heap.size else q j, by go_num, Lib.hid (filNext HFF.out hlt wr.heap.size 5 (by rw [← HSK.out]; rfl) _ _), by omega⟩
        case measure => simp [intOf]; omega
    · have e : k = N := by omega
      subst e
      go_wp2_with fail
      go_ret2
      exact ⟨_, q, rfl, by have := HF.out.prps; obtain ⟨_, h, _⟩ := this; exact h.lt, At.new _ _ _, ⟨Nat.le_refl _, HF.out.low.alloc HF.out.low.size _, by obtain ⟨cs, h, h'⟩ := HF.out.nums; exact ⟨cs, h.alloc _, h'⟩, by obtain ⟨cs, h, h'⟩ := HF.out.prps; exact ⟨cs, h.alloc _, h'⟩⟩⟩
end Go.Proofs.YtjlmaingeobgeaaDoor
