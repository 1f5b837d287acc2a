/- Proved here: the walk of the law FnShouldKeepStmtInDeadControlFlowMatchesHoistModel, for every input. -/
import Derived.Test.YtppcfibhpgjnoaaNDB
import Derived.WalkKit
import Derived.WalkSpells
import Derived.WalkLawsBesides
import Derived.Lib.Hide
import Derived.Lib.SliceRun
import Derived.Deep.RegionWith
import Derived.OwnWalk
import Derived.Laws.OwnMore
import Derived.Deep.AppendLies
namespace Go.Proofs.Ytppcfibhpgjnoaa.fnShouldKeepStmtInDeadControlFlowMatchesHoistModel
open Go.RowKit
set_option linter.unusedSimpArgs false
set_option linter.unusedVariables false

/-- A slice that reads as f at each index below len; nil where len is 0 is let in. -/
def RowV (w : World) (a : Option Addr) (len : Nat) (f : Nat → Value) : Prop :=
  0 < len → ∃ B off, a = some ⟨B, off, none⟩ ∧ ∀ i, i < len → w.cell? ⟨B, off + i, none⟩ = some (f i)
theorem RowV.below {w w' : World} {a : Option Addr} {len : Nat} {f : Nat → Value} (h : RowV w a len f) (hb : Below w.heap.size w w') : RowV w' a len f := fun hp => by
  obtain ⟨B, off, e, hc⟩ := h hp
  exact ⟨B, off, e, fun i hi => kept hb (hc i hi)⟩
def ClonedV (len : Nat) (f : Nat → Value) (w : World) (e : Ending) (w' : World) : Prop :=
  ∃ a' cap', e = .returned (.slice a' len cap') ∧ RowV w' a' len f ∧ Below w.heap.size w w'
theorem rowv_ints {k : IntKind} {w : World} {a : Option Addr} {len cap : Nat} {zs : List Int} (h : IsRow k w a len cap zs) : RowV w a len (fun i => .int k (zs.getD i 0)) := by
  intro hp
  rcases h with ⟨_, rfl, _⟩ | ⟨x, rfl, hl, hm, hz, hcell, _⟩
  · omega
  · obtain ⟨b, off, rfl⟩ := spot_none (hcell 0 (by omega))
    exact ⟨b, off, rfl, fun i hi => by rw [← add_none]; exact hcell i (by omega)⟩
theorem rowv_bools {w : World} {a : Option Addr} {len cap : Nat} {zs : List Bool} (h : IsBools w a len cap zs) : RowV w a len (fun i => .bool (zs.getD i false)) := by
  intro hp
  rcases h with ⟨_, rfl, _⟩ | ⟨x, rfl, hl, hm, hz, hcell⟩
  · omega
  · obtain ⟨b, off, rfl⟩ := spot_none (hcell 0 (by omega))
    exact ⟨b, off, rfl, fun i hi => by rw [← add_none]; exact hcell i (by omega)⟩
theorem rowv_strs {w : World} {a : Option Addr} {len cap : Nat} {zs : List ByteArray} (h : IsStrs w a len cap zs) : RowV w a len (fun i => .string (zs.getD i ByteArray.empty)) := by
  intro hp
  rcases h with ⟨_, rfl, _⟩ | ⟨x, rfl, hl, hm, hz, hcell, _⟩
  · omega
  · obtain ⟨b, off, rfl⟩ := spot_none (hcell 0 (by omega))
    exact ⟨b, off, rfl, fun i hi => by rw [← add_none]; exact hcell i (by omega)⟩
theorem len_ints {k : IntKind} {w : World} {a : Option Addr} {len cap : Nat} {zs : List Int} (h : IsRow k w a len cap zs) : len ≤ maxLen ∧ len ≤ zs.length ∧ ∀ i, (Lit.int k (zs.getD i 0)).wf = true ∨ zs.length ≤ i := by
  rcases h with ⟨_, rfl, _, rfl⟩ | ⟨x, rfl, hl, hm, hz, hcell, hw⟩
  · exact ⟨by unfold maxLen; omega, by simp, fun i => .inr (by simp)⟩
  · refine ⟨by omega, by omega, fun i => ?_⟩
    by_cases hi : i < zs.length
    · left; exact hw _ (by simp [List.getD, hi])
    · right; omega
theorem len_bools {w : World} {a : Option Addr} {len cap : Nat} {zs : List Bool} (h : IsBools w a len cap zs) : len ≤ maxLen := by
  rcases h with ⟨_, rfl, _, rfl⟩ | ⟨x, rfl, hl, hm, hz, hcell⟩
  · unfold maxLen; omega
  · omega
theorem len_strs {w : World} {a : Option Addr} {len cap : Nat} {zs : List ByteArray} (h : IsStrs w a len cap zs) : len ≤ maxLen ∧ ∀ i, (zs.getD i ByteArray.empty).size ≤ maxLen := by
  rcases h with ⟨_, rfl, _, rfl⟩ | ⟨x, rfl, hl, hm, hz, hcell, hw⟩
  · exact ⟨by unfold maxLen; omega, fun i => by simp⟩
  · refine ⟨by omega, fun i => ?_⟩
    by_cases hi : i < zs.length
    · exact hw _ (by simp [List.getD, hi])
    · simp [List.getD, hi]

/-- What the copy 'cpU8' hands back of a slice that is not nil. -/
def cpU8Post (len : Nat) (zs : List Int) (w : World) (e : Ending) (w' : World) : Prop :=
  ∃ cs, e = .returned (.slice (some ⟨w.heap.size, 0, none⟩) len len) ∧ At w' w.heap.size 5 cs ∧ cs.size = len ∧ (∀ i, i < len → cs[i]? = some (.int .u8 (zs.getD i 0))) ∧ Below w.heap.size w w'
def cpU8Rel (len : Nat) (zs : List Int) (w : World) (i : Value) (wr : World) : Prop :=
  ∃ (k : Nat) (cs : Array Value), k ≤ len ∧ i = .int .i64 k ∧ At wr w.heap.size 5 cs ∧ cs.size = len ∧ (∀ j, j < k → cs[j]? = some (.int .u8 (zs.getD j 0))) ∧ Below w.heap.size w wr
theorem cpU8_nil (w : World) : Calls Try.prog 8 #[.slice none 0 0] w fun e w' => e = .returned (.slice none 0 0) ∧ w = w' := by
  have qT : ∀ (w : World) (a : Option Addr) (n c n' c' : Nat), (binOp .eql 22 (.slice a n c) (.slice none n' c')).run Try.prog w = .ok (.bool a.isNone) w := fun w a n c n' c' => Lib.run_eql_slice_nil w 22 5 a n c n' c' Try.underlying22
  go_enter Try.func8, Try.ntmps8
  go_wp2_with fail
  go_ret
  exact ⟨rfl, rfl⟩
set_option maxRecDepth 100000 in
set_option maxHeartbeats 1000000 in
theorem cpU8_some (x : Addr) (len cap : Nat) (zs : List Int) (w : World) (hz : len ≤ zs.length) (hcell : ∀ i, i < zs.length → w.cell? (x.add i) = some (.int .u8 (zs.getD i 0))) (hlen : len ≤ 1048576) :
    Calls Try.prog 8 #[.slice (some x) len cap] w (cpU8Post len zs w) := by
  have qT : ∀ (w : World) (a : Option Addr) (n c n' c' : Nat), (binOp .eql 22 (.slice a n c) (.slice none n' c')).run Try.prog w = .ok (.bool a.isNone) w := fun w a n c n' c' => Lib.run_eql_slice_nil w 22 5 a n c n' c' Try.underlying22
  have hmk := made (P := Try.prog) (t := 22) (e := 5) (z := .int .u8 0) (sz := 1) (by_ := 1) Try.underlying22 (by kernel_rfl) w len (by omega) (by omega)
  rw [Nat.mul_one] at hmk
  have HC := Lib.hid hcell
  clear hcell
  go_enter Try.func8, Try.ntmps8
  go_wp2_with fail
  go_loopw [4] (fun i wr => cpU8Rel len zs w i wr) (fun i _ => len - (intOf i).toNat)
  case atStart => exact ⟨0, _, Nat.zero_le _, rfl, At.new _ _ _, by simp [size_madeCells, Value.cells], fun j hj => absurd hj (by omega), (Below.refl _ _).alloc (Nat.le_refl _) _⟩
  case round =>
    obtain ⟨k, cs, hk, rfl, hat, hsz, hcs, hb⟩ := hrel
    by_cases hlt : k < len
    · have hc := HC.out k (by omega)
      obtain ⟨b, off, rfl⟩ := spot_none (HC.out 0 (by omega))
      rw [add_none] at hc
      have hc1 : wr.cell? ⟨b, off + k, none⟩ = some (.int .u8 (zs.getD k 0)) := by
        exact kept hb hc
      have hd : wr.cell? ⟨w.heap.size, k, none⟩ = some cs[k] := by rw [hat.cell k]; simp [hsz, hlt]
      have hf := hat.frozen k
      clear hc
      have HAT := Lib.hid hat
      have HCS := Lib.hid hcs
      have HSZ := Lib.hid hsz
      clear hat hcs
      go_wp2_with fail
      go_roundw
      case rel =>
        refine ⟨k + 1, _, by omega, by go_num, HAT.out.set k _, by simp [HSZ.out], ?_, hb.setCell (Nat.le_refl _) _⟩
        intro j hj
        by_cases e : j = k
        · subst e; simp [HSZ.out, hlt]
        · rw [Array.getElem?_setIfInBounds_ne (by omega)]; exact HCS.out j (by omega)
      case measure => simp [intOf]; omega
    · have e : k = len := by omega
      subst e
      have HAT := Lib.hid hat
      have HCS := Lib.hid hcs
      have HSZ := Lib.hid hsz
      clear hat hcs hsz
      go_wp2_with fail
      go_ret
      exact ⟨cs, rfl, HAT.out, HSZ.out, HCS.out, hb⟩

theorem cpU8_any (a : Option Addr) (len cap : Nat) (zs : List Int) (w : World) (h : IsRow .u8 w a len cap zs) (hlen : len ≤ 1048576) :
    Calls Try.prog 8 #[.slice a len cap] w (ClonedV len (fun i => .int .u8 (zs.getD i 0)) w) := by
  rcases h with ⟨rfl, rfl, rfl, rfl⟩ | ⟨x, rfl, hl, hm, hz, hcell, hwz⟩
  · refine (cpU8_nil w).mono ?_
    rintro e w' ⟨rfl, rfl⟩
    exact ⟨none, 0, rfl, fun h => absurd h (by omega), Below.refl _ _⟩
  · refine (cpU8_some x len cap zs w (by omega) hcell hlen).mono ?_
    rintro e w' ⟨cs, rfl, hat, hsz, hcs, hb⟩
    exact ⟨_, _, rfl, fun _ => ⟨w.heap.size, 0, rfl, fun i hi => by rw [hat.cell, Nat.zero_add]; exact hcs i hi⟩, hb⟩

set_option maxRecDepth 100000 in
theorem bytes_yes (a0 : Option Addr) (n0 c0 : Nat) (w : World) (h : n0 ≤ 1048576) :
    Calls Try.prog 7 #[.slice a0 n0 c0] w fun e w' => e = .returned (.bool true) ∧ w = w' := by
  go_enter Try.func7, Try.ntmps7
  go_wp2_with fail
  go_ret
  exact ⟨rfl, rfl⟩
set_option maxRecDepth 100000 in
theorem bytes_any (a0 : Option Addr) (n0 c0 : Nat) (w : World) (m0 : n0 ≤ maxLen) :
    ∃ b : Bool, Calls Try.prog 7 #[.slice a0 n0 c0] w fun e w' => e = .returned (.bool b) ∧ w = w' := by
  unfold maxLen at m0
  by_cases h : n0 ≤ 1048576
  · exact ⟨true, bytes_yes a0 n0 c0 w h⟩
  · refine ⟨false, ?_⟩
    have h2 : 1048576 < n0 := by omega
    go_enter Try.func7, Try.ntmps7
    go_wp2_with fail
    go_ret
    exact ⟨rfl, rfl⟩
theorem lenOf {w : World} {a : Option Addr} {len cap : Nat} {zs : List Int} (h : IsRow .u8 w a len cap zs) : len ≤ maxLen := by
  rcases h with ⟨_, rfl, _⟩ | ⟨x, rfl, hl, hm, hz, hcell, _⟩
  · unfold maxLen; omega
  · omega
theorem bytesOf {w : World} {a : Option Addr} {len cap : Nat} {zs : List Int} (h : IsRow .u8 w a len cap zs) : ∀ i, 0 ≤ zs.getD i 0 ∧ zs.getD i 0 ≤ 255 := by
  intro i
  rcases h with ⟨_, rfl, _, rfl⟩ | ⟨x, rfl, hl, hm, hz, hcell, hw⟩
  · simp
  · by_cases hi : i < zs.length
    · exact wf_u8 (hw _ (by simp [List.getD, hi]))
    · simp [List.getD, hi]

theorem arity (z : Int) (W : World) (h0 : 0 ≤ z) (h1 : z ≤ 255) : Calls Try.prog 41 #[.int .u8 z] W fun e w' => e = .returned (.int .i64 (ar z : Nat)) ∧ W = w' := by
  obtain ⟨N, hN⟩ : ∃ N : Nat, z / 19 % 4 = (N : Int) := ⟨(z / 19 % 4).toNat, by omega⟩
  rcases (show z % 19 = 0 ∨ z % 19 = 1 ∨ z % 19 = 2 ∨ z % 19 = 3 ∨ z % 19 = 4 ∨ z % 19 = 5 ∨ z % 19 = 6 ∨ z % 19 = 7 ∨ z % 19 = 8 ∨ z % 19 = 9 ∨ z % 19 = 10 ∨ z % 19 = 11 ∨ z % 19 = 12 ∨ z % 19 = 13 ∨ z % 19 = 14 ∨ z % 19 = 15 ∨ z % 19 = 16 ∨ z % 19 = 17 ∨ z % 19 = 18 by omega) with hk | hk | hk | hk | hk | hk | hk | hk | hk | hk | hk | hk | hk | hk | hk | hk | hk | hk | hk
  · go_enter Try.func41, Try.ntmps41
    go_wp2_with fail
    go_ret
    exact ⟨by simp [ar, hk], rfl⟩
  · go_enter Try.func41, Try.ntmps41
    go_wp2_with fail
    go_ret
    exact ⟨by simp [ar, hk], rfl⟩
  · go_enter Try.func41, Try.ntmps41
    go_wp2_with fail
    go_ret
    exact ⟨by simp [ar, hk], rfl⟩
  · go_enter Try.func41, Try.ntmps41
    go_wp2_with fail
    go_ret
    exact ⟨by simp [ar, hk], rfl⟩
  · go_enter Try.func41, Try.ntmps41
    go_wp2_with fail
    go_ret
    exact ⟨by simp [ar, hk], rfl⟩
  · go_enter Try.func41, Try.ntmps41
    go_wp2_with fail
    go_ret
    exact ⟨by simp [ar, hk], rfl⟩
  · go_enter Try.func41, Try.ntmps41
    go_wp2_with fail
    go_ret
    exact ⟨by simp [ar, hk], rfl⟩
  · go_enter Try.func41, Try.ntmps41
    go_wp2_with fail
    go_ret
    exact ⟨by simp [ar, hk], rfl⟩
  · go_enter Try.func41, Try.ntmps41
    go_wp2_with fail
    go_ret
    exact ⟨by simp [ar, hk], rfl⟩
  · go_enter Try.func41, Try.ntmps41
    go_wp2_with fail
    go_ret
    exact ⟨by simp [ar, hk, hN], rfl⟩
  · go_enter Try.func41, Try.ntmps41
    go_wp2_with fail
    go_ret
    exact ⟨by simp [ar, hk], rfl⟩
  · go_enter Try.func41, Try.ntmps41
    go_wp2_with fail
    go_ret
    exact ⟨by simp [ar, hk], rfl⟩
  · go_enter Try.func41, Try.ntmps41
    go_wp2_with fail
    go_ret
    exact ⟨by simp [ar, hk], rfl⟩
  · go_enter Try.func41, Try.ntmps41
    go_wp2_with fail
    go_ret
    exact ⟨by simp [ar, hk], rfl⟩
  · go_enter Try.func41, Try.ntmps41
    go_wp2_with fail
    go_ret
    exact ⟨by simp [ar, hk], rfl⟩
  · go_enter Try.func41, Try.ntmps41
    go_wp2_with fail
    go_ret
    exact ⟨by simp [ar, hk], rfl⟩
  · go_enter Try.func41, Try.ntmps41
    go_wp2_with fail
    go_ret
    exact ⟨by simp [ar, hk], rfl⟩
  · go_enter Try.func41, Try.ntmps41
    go_wp2_with fail
    go_ret
    exact ⟨by simp [ar, hk], rfl⟩
  · go_enter Try.func41, Try.ntmps41
    go_wp2_with fail
    go_ret
    exact ⟨by simp [ar, hk], rfl⟩
theorem zks {B : Nat} {S : Nat → Prop} {w : World} {ty bq : Nat} {l : Int} {k : Bool} (h : SK B S w (.iface ty (.pointer (some ⟨bq, 0, none⟩))) l k) (hB : B ≤ w.heap.size) : Calls Try.prog 10 #[.agg #[.iface ty (.pointer (some ⟨bq, 0, none⟩)), .int .i32 l]] w (SKP B k w) := by
  have H := Lib.hid (h.at (fun _ _ => rfl) hB)
  have HB := Lib.hid hB
  clear h
  go_enter Try.func10, Try.ntmps10
  go_wp2_with fail
  refine (H.out _ ((Below.refl _ _).alloc (Nat.le_refl _) _)).mono ?_
  rintro e w1 ⟨rfl, y1, y2⟩
  have HF := Lib.hid (show SKP B k w (.returned (.bool k)) w1 from SKP.trans ((Below.refl _ _).alloc (Nat.le_refl _) _) HB.out ⟨rfl, y1, y2⟩)
  clear y1 y2
  go_wp2_with fail
  go_ret
  exact HF.out
def KR (zs : List Int) (n : Nat) (W : World) (d i : Value) (wr : World) : Prop := ∃ m p : Nat, d = .int .i64 m ∧ i = .int .i64 p ∧ p ≤ n ∧ m ≤ 4 * p + 1 ∧ Hid (Kp zs n 1 0 = Kp zs n m p) ∧ wr = W
theorem ar_le (z : Int) : ar z ≤ 3 := by unfold ar; repeat' split
                                         all_goals omega
set_option maxRecDepth 100000 in
set_option maxHeartbeats 4000000 in
theorem model (base n cap : Nat) (a : Option Addr) (zs : List Int) (hn : n ≤ 4096) (hz : ∀ i, 0 ≤ zs.getD i 0 ∧ zs.getD i 0 ≤ 255) (W : World) (hO : Ops base W a n zs) : Calls Try.prog 11 #[.slice a n cap] W fun e w' => e = .returned (.bool (Kp zs n 1 0)) ∧ W = w' := by
  have HO := Lib.hid hO
  have HZ := Lib.hid hz
  clear hO hz
  go_enter Try.func11, Try.ntmps11
  go_wp2_with fail
  go_loopw [3, 4] (fun d i wr => KR zs n W d i wr) (fun _ i _ => n - (intOf i).toNat)
  case atStart => exact ⟨1, 0, rfl, rfl, by omega, by omega, Lib.hid rfl, rfl⟩
  case round =>
    obtain ⟨m, p, rfl, rfl, hp, hm, HK, rfl⟩ := hrel
    by_cases hm0 : m = 0
    · subst hm0
      have HE := Lib.hid (show Kp zs n 1 0 = false from by rw [HK.out, Kp_zero])
      clear HK
      go_wp2_with fail
      go_ret
      exact ⟨by rw [HE.out]; rfl, rfl⟩
    · have m1 : (0 : Int) < (m : Int) := by omega
      by_cases hpn : p < n
      · obtain ⟨B, off, rfl, hBb, hc⟩ := HO.out (by omega)
        have c0 := hc p hpn
        obtain ⟨z0, z1⟩ := HZ.out p
        obtain ⟨z, hzz⟩ : ∃ z, z = zs.getD p 0 := ⟨_, rfl⟩
        rw [← hzz] at c0 z0 z1
        have lB : B < wr.heap.size := World.block_lt_of_cell? _ _ c0
        have p0 : (0 : Int) ≤ (p : Int) := Int.natCast_nonneg _
        have p1 : (p : Int) < (n : Int) := by omega
        obtain ⟨m', rfl⟩ : ∃ m', m = m' + 1 := ⟨m - 1, by omega⟩
        have hle := ar_le z
        have AR := Lib.hid (fun W => arity z W z0 z1)
        by_cases h5 : z % 19 = 5 ∨ z % 19 = 6
        · have HE := Lib.hid (show Kp zs n 1 0 = true from by rw [HK.out, Kp_hit hpn hzz.symm h5])
          obtain ⟨r, hr⟩ : ∃ r, r = ar z := ⟨_, rfl⟩
          rw [← hr] at AR hle
          clear HK hc hzz hr
          rcases h5 with h5 | h5
          all_goals
            go_wp2_with fail
            refine (AR.out _).mono ?_
            rintro e w1 ⟨rfl, rfl⟩
            go_wp2_with fail
            go_ret
            exact ⟨by rw [HE.out]; rfl, rfl⟩
        · have h51 : z % 19 ≠ 5 := fun e => h5 (.inl e)
          have h52 : z % 19 ≠ 6 := fun e => h5 (.inr e)
          have n5 : (z % 19 == 5) = false := by simp; omega
          have n6 : (z % 19 == 6) = false := by simp; omega
          have HK1 := Lib.hid (show Kp zs n 1 0 = Kp zs n (m' + ar z) (p + 1) from by rw [HK.out, Kp_step hpn hzz.symm h51 h52])
          obtain ⟨r, hr⟩ : ∃ r, r = ar z := ⟨_, rfl⟩
          rw [← hr] at AR hle HK1
          clear HK hc hzz hr h5 h51 h52
          go_wp2_with fail
          refine (AR.out _).mono ?_
          rintro e w1 ⟨rfl, rfl⟩
          go_wp2_with fail
          go_roundw
          case rel => exact ⟨m' + r, p + 1, by go_num, by go_num, by omega, by omega, HK1, rfl⟩
          case measure => simp [intOf]; omega
      · have e : p = n := by omega
        subst e
        have HE := Lib.hid (show Kp zs p 1 0 = false from by rw [HK.out, Kp_out (Nat.le_refl _)])
        have p1 : decide ((p : Int) < (p : Int)) = false := by simp
        clear HK
        go_wp2_with fail
        go_ret
        exact ⟨by rw [HE.out]; rfl, rfl⟩
set_option maxRecDepth 100000 in
set_option maxHeartbeats 8000000 in
theorem walk (a0 : Option Addr) (len0 cap0 : Nat) (z0 : List Int) (w : World) (w0 : IsRow .u8 w a0 len0 cap0 z0) :
    Calls Try.prog 3 #[.slice a0 len0 cap0] w fun e w' => e = .returned (.bool true) ∧ Below w.heap.size w w' := by
  by_cases s0 : len0 ≤ 4096
  · have HW := Lib.hid w0
    have HZ := Lib.hid (bytesOf w0)
    clear w0
    go_enter Try.func3, Try.ntmps3
    go_wp2_with fail
    refine (bytes_yes _ _ _ _ (by omega)).mono ?_
    rintro e w' ⟨rfl, rfl⟩
    go_wp2_with fail
    refine (cpU8_any a0 len0 cap0 z0 w HW.out (by omega)).mono ?_
    rintro e w1 ⟨a1, c1, rfl, hrow, hb⟩
    have HO := Lib.hid (show Ops w1.heap.size w1 a1 len0 z0 from fun hp => by
      obtain ⟨B, off, e, hc⟩ := hrow hp
      exact ⟨B, off, e, World.block_lt_of_cell? _ _ (hc 0 hp), hc⟩)
    have HB := Lib.hid hb
    have z1 := hb.size
    clear hrow hb HW
    go_wp2_with fail
    refine (nd w1.heap.size len0 c1 w1.heap.size a1 z0 s0 HZ.out (Nat.le_refl _) len0 0 0 _ (by omega) (by omega) (At.new _ _ _) (HO.out.keep ((Below.refl _ _).alloc (Nat.le_refl _) _))).mono ?_
    rintro e w2 ⟨d, l, p', l', k, S, rfl, ⟨ty, bq, rfl⟩, hsk, hS, hp1, hp2, hp3, ht, hg, hK⟩
    have z2 := hg.size
    simp at z2
    have B2 := Lib.hid (show Below w1.heap.size w1 w2 from ((Below.refl _ _).alloc (Nat.le_refl _) _).trans (gBelow hg (by simp) (fun q hq => by simp at hq; omega)))
    have HK := Lib.hid (show Kp z0 len0 1 0 = k from by rw [hK 0, Kp_zero]; simp)
    have HS := Lib.hid (show ∀ o, SK w1.heap.size S (w2.alloc o) (.iface ty (.pointer (some ⟨bq, 0, none⟩))) l k from fun o => hsk.keep (by simp) (fun q hq => Below.heap_alloc _ _ q (hsk.1 q hq).2))
    clear hsk hS ht hg hK
    go_wp2_with fail
    refine (zks (HS.out _) (by simp; omega)).mono ?_
    rintro e w3 ⟨rfl, y1, y2⟩
    have B3 := Lib.hid (show Below w1.heap.size w1 w3 from (B2.out.alloc (by omega) _).trans y1)
    clear y1 y2 HS
    go_wp2_with fail
    refine (model w1.heap.size len0 c1 a1 z0 s0 HZ.out w3 (HO.out.keep B3.out)).mono ?_
    rintro e w4 ⟨rfl, rfl⟩
    rw [HK.out]
    have HE := Lib.hid (show Below w.heap.size w w3 from HB.out.trans (B3.out.mono z1))
    clear HK B2 B3 HB HO
    cases k <;> (go_wp2_with fail; go_ret; exact ⟨rfl, HE.out⟩)
  · obtain ⟨b, hb⟩ := bytes_any a0 len0 cap0 w (lenOf w0)
    have m0 := lenOf w0
    unfold maxLen at m0
    have HB := Lib.hid hb
    have h1 : 4096 < len0 := by omega
    clear hb w0
    go_enter Try.func3, Try.ntmps3
    go_wp2_with fail
    refine HB.out.mono ?_
    rintro e w' ⟨rfl, rfl⟩
    cases b <;> (go_wp2_with fail; go_ret; exact ⟨rfl, Below.refl _ _⟩)
end Go.Proofs.Ytppcfibhpgjnoaa.fnShouldKeepStmtInDeadControlFlowMatchesHoistModel
