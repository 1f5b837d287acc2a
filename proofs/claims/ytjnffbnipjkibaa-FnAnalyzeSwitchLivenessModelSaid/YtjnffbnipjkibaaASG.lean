/- Proved here: the guards, the copies, ZZanalyzeSwitch and zzCaseBodyFalls. Conditions: the lists' cells, as stated. -/
import Derived.Test.YtjnffbnipjkibaaASF
import Derived.WalkKit
import Derived.WalkSpells
import Derived.WalkLawsBesides
import Derived.Lib.Hide
import Derived.Lib.SliceRun
import Derived.Deep.RegionWith
import Derived.OwnWalk
import Derived.Laws.OwnMore
import Derived.Deep.DeepCutAuto
namespace Go.Proofs.Ytjnffbnipjkibaa
open Go.RowKit
set_option linter.unusedSimpArgs false
set_option linter.unusedVariables false

/-- What the copy 'cpU8' hands back of a slice that is not nil. -/
def cpU8Post (len : Nat) (zs : List Int) (w : World) (e : Ending) (w' : World) : Prop :=
  ∃ cs, e = .returned (.slice (some ⟨w.heap.size, 0, none⟩) len len) ∧ At w' w.heap.size 5 cs ∧ cs.size = len ∧ (∀ i, i < len → cs[i]? = some (.int .u8 (zs.getD i 0))) ∧ Below w.heap.size w w'
def cpU8Rel (len : Nat) (zs : List Int) (w : World) (i : Value) (wr : World) : Prop :=
  ∃ (k : Nat) (cs : Array Value), k ≤ len ∧ i = .int .i64 k ∧ At wr w.heap.size 5 cs ∧ cs.size = len ∧ (∀ j, j < k → cs[j]? = some (.int .u8 (zs.getD j 0))) ∧ Below w.heap.size w wr
theorem cpU8_nil (w : World) : Calls Try.prog 16 #[.slice none 0 0] w fun e w' => e = .returned (.slice none 0 0) ∧ w = w' := by
  have qT : ∀ (w : World) (a : Option Addr) (n c n' c' : Nat), (binOp .eql 22 (.slice a n c) (.slice none n' c')).run Try.prog w = .ok (.bool a.isNone) w := fun w a n c n' c' => Lib.run_eql_slice_nil w 22 5 a n c n' c' Try.underlying22
  go_enter Try.func16, Try.ntmps16
  go_wp2_with fail
  go_ret
  exact ⟨rfl, rfl⟩
set_option maxRecDepth 100000 in
set_option maxHeartbeats 1000000 in
theorem cpU8_some (x : Addr) (len cap : Nat) (zs : List Int) (w : World) (hz : len ≤ zs.length) (hcell : ∀ i, i < zs.length → w.cell? (x.add i) = some (.int .u8 (zs.getD i 0))) (hlen : len ≤ 1048576) :
    Calls Try.prog 16 #[.slice (some x) len cap] w (cpU8Post len zs w) := by
  have qT : ∀ (w : World) (a : Option Addr) (n c n' c' : Nat), (binOp .eql 22 (.slice a n c) (.slice none n' c')).run Try.prog w = .ok (.bool a.isNone) w := fun w a n c n' c' => Lib.run_eql_slice_nil w 22 5 a n c n' c' Try.underlying22
  have hmk := made (P := Try.prog) (t := 22) (e := 5) (z := .int .u8 0) (sz := 1) (by_ := 1) Try.underlying22 (by kernel_rfl) w len (by omega) (by omega)
  rw [Nat.mul_one] at hmk
  have HC := Lib.hid hcell
  clear hcell
  go_enter Try.func16, Try.ntmps16
  go_wp2_with fail
  go_loopw [4] (fun i wr => cpU8Rel len zs w i wr) (fun i _ => len - (intOf i).toNat)
  case atStart => exact ⟨0, _, Nat.zero_le _, rfl, At.new _ _ _, by simp [size_madeCells, Value.cells], fun j hj => absurd hj (by omega), (Below.refl _ _).alloc (Nat.le_refl _) _⟩
  case round =>
    obtain ⟨k, cs, hk, rfl, hat, hsz, hcs, hb⟩ := hrel
    by_cases hlt : k < len
    · have hc := HC.out k (by omega)
      obtain ⟨b, off, rfl⟩ := spot_none (HC.out 0 (by omega))
      rw [add_none] at hc
      have hc1 : wr.cell? ⟨b, off + k, none⟩ = some (.int .u8 (zs.getD k 0)) := by
        exact kept hb hc
      have hd : wr.cell? ⟨w.heap.size, k, none⟩ = some cs[k] := by rw [hat.cell k]; simp [hsz, hlt]
      have hf := hat.frozen k
      clear hc
      have HAT := Lib.hid hat
      have HCS := Lib.hid hcs
      have HSZ := Lib.hid hsz
      clear hat hcs
      go_wp2_with fail
      go_roundw
      case rel =>
        refine ⟨k + 1, _, by omega, by go_num, HAT.out.set k _, by simp [HSZ.out], ?_, hb.setCell (Nat.le_refl _) _⟩
        intro j hj
        by_cases e : j = k
        · subst e; simp [HSZ.out, hlt]
        · rw [Array.getElem?_setIfInBounds_ne (by omega)]; exact HCS.out j (by omega)
      case measure => simp [intOf]; omega
    · have e : k = len := by omega
      subst e
      have HAT := Lib.hid hat
      have HCS := Lib.hid hcs
      have HSZ := Lib.hid hsz
      clear hat hcs hsz
      go_wp2_with fail
      go_ret
      exact ⟨cs, rfl, HAT.out, HSZ.out, HCS.out, hb⟩

theorem cpU8_any (a : Option Addr) (len cap : Nat) (zs : List Int) (w : World) (h : IsRow .u8 w a len cap zs) (hlen : len ≤ 1048576) :
    Calls Try.prog 16 #[.slice a len cap] w (ClonedV len (fun i => .int .u8 (zs.getD i 0)) w) := by
  rcases h with ⟨rfl, rfl, rfl, rfl⟩ | ⟨x, rfl, hl, hm, hz, hcell, hwz⟩
  · refine (cpU8_nil w).mono ?_
    rintro e w' ⟨rfl, rfl⟩
    exact ⟨none, 0, rfl, fun h => absurd h (by omega), Below.refl _ _⟩
  · refine (cpU8_some x len cap zs w (by omega) hcell hlen).mono ?_
    rintro e w' ⟨cs, rfl, hat, hsz, hcs, hb⟩
    exact ⟨_, _, rfl, fun _ => ⟨w.heap.size, 0, rfl, fun i hi => by rw [hat.cell, Nat.zero_add]; exact hcs i hi⟩, hb⟩

/-- What the copy 'cpI8' hands back of a slice that is not nil. -/
def cpI8Post (len : Nat) (zs : List Int) (w : World) (e : Ending) (w' : World) : Prop :=
  ∃ cs, e = .returned (.slice (some ⟨w.heap.size, 0, none⟩) len len) ∧ At w' w.heap.size 38 cs ∧ cs.size = len ∧ (∀ i, i < len → cs[i]? = some (.int .i8 (zs.getD i 0))) ∧ Below w.heap.size w w'
def cpI8Rel (len : Nat) (zs : List Int) (w : World) (i : Value) (wr : World) : Prop :=
  ∃ (k : Nat) (cs : Array Value), k ≤ len ∧ i = .int .i64 k ∧ At wr w.heap.size 38 cs ∧ cs.size = len ∧ (∀ j, j < k → cs[j]? = some (.int .i8 (zs.getD j 0))) ∧ Below w.heap.size w wr
theorem cpI8_nil (w : World) : Calls Try.prog 17 #[.slice none 0 0] w fun e w' => e = .returned (.slice none 0 0) ∧ w = w' := by
  have qT : ∀ (w : World) (a : Option Addr) (n c n' c' : Nat), (binOp .eql 39 (.slice a n c) (.slice none n' c')).run Try.prog w = .ok (.bool a.isNone) w := fun w a n c n' c' => Lib.run_eql_slice_nil w 39 38 a n c n' c' Try.underlying39
  go_enter Try.func17, Try.ntmps17
  go_wp2_with fail
  go_ret
  exact ⟨rfl, rfl⟩
set_option maxRecDepth 100000 in
set_option maxHeartbeats 1000000 in
theorem cpI8_some (x : Addr) (len cap : Nat) (zs : List Int) (w : World) (hz : len ≤ zs.length) (hcell : ∀ i, i < zs.length → w.cell? (x.add i) = some (.int .i8 (zs.getD i 0))) (hlen : len ≤ 1048576) :
    Calls Try.prog 17 #[.slice (some x) len cap] w (cpI8Post len zs w) := by
  have qT : ∀ (w : World) (a : Option Addr) (n c n' c' : Nat), (binOp .eql 39 (.slice a n c) (.slice none n' c')).run Try.prog w = .ok (.bool a.isNone) w := fun w a n c n' c' => Lib.run_eql_slice_nil w 39 38 a n c n' c' Try.underlying39
  have hmk := made (P := Try.prog) (t := 39) (e := 38) (z := .int .i8 0) (sz := 1) (by_ := 1) Try.underlying39 (by kernel_rfl) w len (by omega) (by omega)
  rw [Nat.mul_one] at hmk
  have HC := Lib.hid hcell
  clear hcell
  go_enter Try.func17, Try.ntmps17
  go_wp2_with fail
  go_loopw [4] (fun i wr => cpI8Rel len zs w i wr) (fun i _ => len - (intOf i).toNat)
  case atStart => exact ⟨0, _, Nat.zero_le _, rfl, At.new _ _ _, by simp [size_madeCells, Value.cells], fun j hj => absurd hj (by omega), (Below.refl _ _).alloc (Nat.le_refl _) _⟩
  case round =>
    obtain ⟨k, cs, hk, rfl, hat, hsz, hcs, hb⟩ := hrel
    by_cases hlt : k < len
    · have hc := HC.out k (by omega)
      obtain ⟨b, off, rfl⟩ := spot_none (HC.out 0 (by omega))
      rw [add_none] at hc
      have hc1 : wr.cell? ⟨b, off + k, none⟩ = some (.int .i8 (zs.getD k 0)) := by
        exact kept hb hc
      have hd : wr.cell? ⟨w.heap.size, k, none⟩ = some cs[k] := by rw [hat.cell k]; simp [hsz, hlt]
      have hf := hat.frozen k
      clear hc
      have HAT := Lib.hid hat
      have HCS := Lib.hid hcs
      have HSZ := Lib.hid hsz
      clear hat hcs
      go_wp2_with fail
      go_roundw
      case rel =>
        refine ⟨k + 1, _, by omega, by go_num, HAT.out.set k _, by simp [HSZ.out], ?_, hb.setCell (Nat.le_refl _) _⟩
        intro j hj
        by_cases e : j = k
        · subst e; simp [HSZ.out, hlt]
        · rw [Array.getElem?_setIfInBounds_ne (by omega)]; exact HCS.out j (by omega)
      case measure => simp [intOf]; omega
    · have e : k = len := by omega
      subst e
      have HAT := Lib.hid hat
      have HCS := Lib.hid hcs
      have HSZ := Lib.hid hsz
      clear hat hcs hsz
      go_wp2_with fail
      go_ret
      exact ⟨cs, rfl, HAT.out, HSZ.out, HCS.out, hb⟩

theorem cpI8_any (a : Option Addr) (len cap : Nat) (zs : List Int) (w : World) (h : IsRow .i8 w a len cap zs) (hlen : len ≤ 1048576) :
    Calls Try.prog 17 #[.slice a len cap] w (ClonedV len (fun i => .int .i8 (zs.getD i 0)) w) := by
  rcases h with ⟨rfl, rfl, rfl, rfl⟩ | ⟨x, rfl, hl, hm, hz, hcell, hwz⟩
  · refine (cpI8_nil w).mono ?_
    rintro e w' ⟨rfl, rfl⟩
    exact ⟨none, 0, rfl, fun h => absurd h (by omega), Below.refl _ _⟩
  · refine (cpI8_some x len cap zs w (by omega) hcell hlen).mono ?_
    rintro e w' ⟨cs, rfl, hat, hsz, hcs, hb⟩
    exact ⟨_, _, rfl, fun _ => ⟨w.heap.size, 0, rfl, fun i hi => by rw [hat.cell, Nat.zero_add]; exact hcs i hi⟩, hb⟩

set_option maxRecDepth 100000 in
set_option maxHeartbeats 4000000 in
theorem by14 (ti : Bool) (tv : Int) (a2 a3 a4 : Option Addr) (n c2 m c3 p c4 : Nat) (w : World) (hn : n ≤ maxLen) (hm : m ≤ maxLen) (hp : p ≤ maxLen) : Calls Try.prog 14 #[.bool ti, .int .i8 tv, .slice a2 n c2, .slice a3 m c3, .slice a4 p c4] w (fun e w' => ∃ b, e = .returned (.bool b) ∧ w = w') := by
  unfold maxLen at hn hm hp
  go_enter Try.func14, Try.ntmps14
  go_wp2_with fail
  all_goals
    go_ret
    exact ⟨_, rfl, rfl⟩

set_option maxRecDepth 100000 in
set_option maxHeartbeats 4000000 in
theorem by22 (ti : Bool) (tv : Int) (a2 a3 a4 : Option Addr) (n c2 m c3 p c4 : Nat) (w : World) (hn : n ≤ maxLen) (hm : m ≤ maxLen) (hp : p ≤ maxLen) : Calls Try.prog 22 #[.bool ti, .int .i8 tv, .slice a2 n c2, .slice a3 m c3, .slice a4 p c4] w (fun e w' => ∃ b, e = .returned (.bool b) ∧ w = w') := by
  unfold maxLen at hn hm hp
  go_enter Try.func22, Try.ntmps22
  go_wp2_with fail
  all_goals
    go_ret
    exact ⟨_, rfl, rfl⟩

def GdP (n m p : Nat) (w : World) (e : Ending) (w' : World) : Prop := ∃ b, e = .returned (.bool b) ∧ (b = false → n ≤ 4096 ∧ m ≤ 4096 ∧ p ≤ 4096) ∧ w = w'
def GdR (n : Nat) (W : World) (d i : Value) (wr : World) : Prop := ∃ j c : Nat, j ≤ n ∧ c ≤ j ∧ d = .int .i64 c ∧ i = .int .i64 j ∧ W = wr
set_option maxRecDepth 100000 in
set_option maxHeartbeats 4000000 in
theorem guards (a2 a3 a4 : Option Addr) (n c2 m c3 p c4 : Nat) (ks : List Int) (w : World) (hk : RowK .u8 w a2 n ks) (hn : n ≤ maxLen) (hm : m ≤ maxLen) (hp : p ≤ maxLen) (hz : ∀ i, 0 ≤ ks.getD i 0 ∧ ks.getD i 0 ≤ 255) : Calls Try.prog 15 #[.slice a2 n c2, .slice a3 m c3, .slice a4 p c4] w (GdP n m p w) := by
  unfold maxLen at hn hm hp
  have HK := Lib.hid hk
  clear hk
  by_cases b1 : n ≤ 4096
  case neg =>
    have e1 : decide (4096 < (n : Int)) = true := by simp; omega
    have e2 : decide (4096 < n) = true := by simp; omega
    go_enter Try.func15, Try.ntmps15
    go_wp2_with fail
    go_ret
    exact ⟨true, rfl, (fun h => by cases h), rfl⟩
  by_cases b2 : m ≤ 4096
  case neg =>
    have e1 : decide (4096 < (m : Int)) = true := by simp; omega
    have e2 : decide (4096 < m) = true := by simp; omega
    have e3 : decide (4096 < (n : Int)) = false := by simp; omega
    have e4 : decide (4096 < n) = false := by simp; omega
    go_enter Try.func15, Try.ntmps15
    go_wp2_with fail
    go_ret
    exact ⟨true, rfl, (fun h => by cases h), rfl⟩
  by_cases b3 : p ≤ 4096
  case neg =>
    have e1 : decide (4096 < (p : Int)) = true := by simp; omega
    have e2 : decide (4096 < p) = true := by simp; omega
    have e3 : decide (4096 < (n : Int)) = false := by simp; omega
    have e4 : decide (4096 < n) = false := by simp; omega
    have e5 : decide (4096 < (m : Int)) = false := by simp; omega
    have e6 : decide (4096 < m) = false := by simp; omega
    go_enter Try.func15, Try.ntmps15
    go_wp2_with fail
    go_ret
    exact ⟨true, rfl, (fun h => by cases h), rfl⟩
  have e1 : decide (4096 < (p : Int)) = false := by simp; omega
  have e2 : decide (4096 < p) = false := by simp; omega
  have e3 : decide (4096 < (n : Int)) = false := by simp; omega
  have e4 : decide (4096 < n) = false := by simp; omega
  have e5 : decide (4096 < (m : Int)) = false := by simp; omega
  have e6 : decide (4096 < m) = false := by simp; omega
  go_enter Try.func15, Try.ntmps15
  go_wp2_with fail
  go_loopw [7, 8] (fun d i wr => GdR n w d i wr) (fun d i _ => n - (intOf i).toNat)
  case atStart => exact ⟨0, 0, by omega, by omega, rfl, rfl, rfl⟩
  case round =>
    obtain ⟨j, c, hj, hcj, rfl, rfl, rfl⟩ := hrel
    by_cases hjn : j < n
    · obtain ⟨B, off, rfl, c0⟩ := HK.out j hjn
      obtain ⟨z0, z1⟩ := hz j
      obtain ⟨z, hzz⟩ : ∃ z, z = ks.getD j 0 := ⟨_, rfl⟩
      rw [← hzz] at c0 z0 z1
      clear hzz
      have lB : B < w.heap.size := World.block_lt_of_cell? _ _ c0
      have q0 : (0 : Int) ≤ (j : Int) := Int.natCast_nonneg _
      have q1 : (j : Int) < (n : Int) := by omega
      by_cases hk0 : z % 3 = 0
      · go_wp2_with fail
        go_roundw
        case rel => exact ⟨j + 1, c + 1, by omega, by omega, by go_num, by go_num, rfl⟩
        case measure => simp [intOf]; omega
      · have f0 : (z % 3 == 0) = false := by simp [hk0]
        clear hk0
        go_wp2_with fail
        go_roundw
        case rel => exact ⟨j + 1, c, by omega, by omega, rfl, by go_num, rfl⟩
        case measure => simp [intOf]; omega
    · obtain rfl : j = n := by omega
      go_wp2_with fail
      go_ret
      exact ⟨_, rfl, fun _ => ⟨b1, b2, b3⟩, rfl⟩
set_option maxRecDepth 100000 in
set_option maxHeartbeats 4000000 in
theorem cbFalls (z c : Int) (w : World) (hz : z % 6 = c) (h0 : 0 ≤ z) (h1 : z ≤ 255) : Calls Try.prog 20 #[.int .u8 z] w (fun e w' => e = .returned (.bool (falls c)) ∧ w = w') := by
  have hc : c = 0 ∨ c = 1 ∨ c = 2 ∨ c = 3 ∨ c = 4 ∨ c = 5 := by omega
  rcases hc with rfl | rfl | rfl | rfl | rfl | rfl
  all_goals
    go_enter Try.func20, Try.ntmps20
    go_wp2_with fail
    go_ret
    exact ⟨rfl, rfl⟩

def ZaP (n : Nat) (st : Nat → Int) (f : Nat → Bool) (w : World) (e : Ending) (w' : World) : Prop := ∃ S1 S2 cs fs, e = .returned (.tuple #[.slice (some ⟨S1, 0, none⟩) n n, .slice (some ⟨S2, 0, none⟩) n n]) ∧ At w' S1 38 cs ∧ (∀ q, q < n → cs[q]? = some (.int .i8 (st q))) ∧ At w' S2 4 fs ∧ (∀ q, q < n → fs[q]? = some (.bool (f q))) ∧ Below w.heap.size w w'
def ZR (n S : Nat) (st : Nat → Int) (f : Nat → Bool) (W : World) (i : Value) (wr : World) : Prop := ∃ (j : Nat) (cs fs : Array Value), j ≤ n ∧ i = .int .i64 j ∧ Hid (At wr S 38 cs) ∧ Hid (At wr (S + 1) 4 fs) ∧ Hid (cs.size = n ∧ fs.size = n) ∧ Hid (∀ q, q < j → cs[q]? = some (.int .i8 (st q)) ∧ fs[q]? = some (.bool (f q))) ∧ Hid (Below S W wr)
set_option maxRecDepth 100000 in
set_option maxHeartbeats 4000000 in
theorem zana (n : Nat) (ti : Bool) (tv : Int) (ks vs : List Int) (m : Nat) (bs : List Int) (p sb : Nat) (w : World) (hn : n ≤ 4096) (ha : Calls Try.prog 32 #[.pointer (some ⟨sb, 0, none⟩)] w (AnP n ti tv ks vs m bs p w)) : Calls Try.prog 19 #[.pointer (some ⟨sb, 0, none⟩)] w (ZaP n (fn ti tv ks vs m bs p n) (fl bs p) w) := by
  have HA := Lib.hid ha
  clear ha
  go_enter Try.func19, Try.ntmps19
  go_wp2_with fail
  refine HA.out.mono ?_
  rintro e w1 ⟨R, ys, rfl, hown, hys, hb⟩
  have HO := Lib.hid hown
  have HY := Lib.hid hys
  have HB := Lib.hid hb
  have lR : R < w1.heap.size := (World.ownsRow.lt hown R rfl).2
  have hmk := made (P := Try.prog) (t := 39) (e := 38) (z := .int .i8 0) (sz := 1) (by_ := 1) Try.underlying39 (by kernel_rfl) w1 n (by omega) (by omega)
  rw [Nat.mul_one] at hmk
  have hmk2 := made (P := Try.prog) (t := 46) (e := 4) (z := .bool false) (sz := 1) (by_ := 1) Try.underlying46 (by kernel_rfl) (w1.alloc (.cells (madeCells #[.int .i8 0] n) 38)) n (by omega) (by omega)
  rw [Nat.mul_one] at hmk2
  clear hown hys hb HA
  go_wp2_with fail
  clear hmk hmk2
  go_loopw [19] (fun i wr => ZR n w1.heap.size (fn ti tv ks vs m bs p n) (fl bs p) w1 i wr) (fun i _ => n - (intOf i).toNat)
  case atStart => exact ⟨0, _, _, by omega, rfl, Lib.hid (At.alloc (At.new w1 38 (madeCells #[.int .i8 0] n)) _), Lib.hid (show At _ (w1.heap.size + 1) 4 (madeCells #[.bool false] n) from by have h := heap_alloc_new (w1.alloc (.cells (madeCells #[.int .i8 0] n) 38)) (.cells (madeCells #[.bool false] n) 4); rw [show (w1.alloc (.cells (madeCells #[.int .i8 0] n) 38)).heap.size = w1.heap.size + 1 from by simp] at h; exact h), Lib.hid ⟨by simp [size_madeCells], by simp [size_madeCells]⟩, Lib.hid (fun q hq => absurd hq (by omega)), Lib.hid (((Below.refl _ _).alloc (Nat.le_refl _) _).alloc (by simp) _)⟩
  case round =>
    obtain ⟨j, cs, fs, hj, rfl, AC, AF, HZ, HS, HL⟩ := hrel
    by_cases hjn : j < n
    · obtain ⟨y1, y2⟩ := HY.out.2 j hjn
      have r0 : wr.cell? ⟨R, j * 2, none⟩ = some (.int .i8 (fn ti tv ks vs m bs p n j)) := (HL.out.cell (p := ⟨R, j * 2, none⟩) (by simp; exact lR)).trans (by rw [World.ownsRow.cellAt HO.out _ (by omega)]; exact y1)
      have r1 : wr.cell? ⟨R, j * 2 + 1, none⟩ = some (.bool (fl bs p j)) := (HL.out.cell (p := ⟨R, j * 2 + 1, none⟩) (by simp; exact lR)).trans (by rw [World.ownsRow.cellAt HO.out _ (by omega)]; exact y2)
      obtain ⟨z1, z2⟩ := HZ.out
      obtain ⟨u, hu⟩ : ∃ u, cs[j]? = some u := ⟨_, Array.getElem?_eq_getElem (by omega)⟩
      obtain ⟨u2, hu2⟩ : ∃ u, fs[j]? = some u := ⟨_, Array.getElem?_eq_getElem (by omega)⟩
      have s0 : wr.cell? ⟨w1.heap.size, j, none⟩ = some u := by rw [AC.out.cell]; exact hu
      have s1 : wr.cell? ⟨w1.heap.size + 1, j, none⟩ = some u2 := by rw [AF.out.cell]; exact hu2
      have sf0 := AC.out.frozen j
      have sf1 := AF.out.frozen j
      have lc := AC.out.lt
      have lf := AF.out.lt
      have lRr : R < wr.heap.size := by omega
      have j0 : (0 : Int) ≤ (j : Int) := Int.natCast_nonneg _
      have j1 : (j : Int) < (n : Int) := by omega
      have ne1 : ¬ w1.heap.size = w1.heap.size + 1 := by omega
      clear y1 y2 z1 z2 hu hu2
      go_wp2_with fail
      go_roundw
      case measure => simp [intOf]; omega
      case rel =>
        refine ⟨j + 1, cs.setIfInBounds j (.int .i8 (fn ti tv ks vs m bs p n j)), fs.setIfInBounds j (.bool (fl bs p j)), by omega, by go_num, Lib.hid ?_, Lib.hid ?_, Lib.hid ⟨by simp [HZ.out.1], by simp [HZ.out.2]⟩, Lib.hid (fun q hq => ?_), Lib.hid ?_⟩
        · exact At.alloc (At.far (At.set AC.out j _) (by simp) _) _
        · exact At.alloc (At.set (At.far AF.out (by simp) _) j _) _
        · by_cases e : q = j
          · subst e
            exact ⟨by rw [Array.getElem?_setIfInBounds_self_of_lt (by have := HZ.out.1; omega)], by rw [Array.getElem?_setIfInBounds_self_of_lt (by have := HZ.out.2; omega)]⟩
          · obtain ⟨g1, g2⟩ := HS.out q (by omega)
            exact ⟨by rw [Array.getElem?_setIfInBounds_ne (Ne.symm e)]; exact g1, by rw [Array.getElem?_setIfInBounds_ne (Ne.symm e)]; exact g2⟩
        · exact ((HL.out.setCell (Nat.le_refl _) _).setCell (by simp) _).alloc (by simp [World.setCell]; omega) _
    · obtain rfl : j = n := by omega
      go_wp2_with fail
      exact bodyPost_ret (v := .tuple #[.slice (some ⟨w1.heap.size, 0, none⟩) j j, .slice (some ⟨w1.heap.size + 1, 0, none⟩) j j]) (by simp [results, Try.results19, go_sem]) rfl ⟨_, _, cs, fs, rfl, AC.out, fun q hq => (HS.out q hq).1, AF.out, fun q hq => (HS.out q hq).2, HB.out.trans (HL.out.mono HB.out.size)⟩
end Go.Proofs.Ytjnffbnipjkibaa
