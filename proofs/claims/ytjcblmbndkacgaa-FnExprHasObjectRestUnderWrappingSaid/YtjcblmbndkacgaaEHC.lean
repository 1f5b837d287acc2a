/- Proved here: the contracts of zzAt, zzFlag and zzExprShape. Conditions: the arguments' cells, as stated. -/
import Derived.Test.YtjcblmbndkacgaaEHB
import Derived.WalkKit
import Derived.WalkSpells
import Derived.WalkLawsBesides
import Derived.Lib.Hide
import Derived.Lib.SliceRun
import Derived.Deep.RegionWith
import Derived.OwnWalk
import Derived.Laws.OwnMore
namespace Go.Proofs.Ytjcblmbndkacgaa
open Go.RowKit
set_option linter.unusedSimpArgs false
set_option linter.unusedVariables false

/-- A slice that reads as f at each index below len; nil where len is 0 is let in. -/
def RowV (w : World) (a : Option Addr) (len : Nat) (f : Nat → Value) : Prop :=
  0 < len → ∃ B off, a = some ⟨B, off, none⟩ ∧ ∀ i, i < len → w.cell? ⟨B, off + i, none⟩ = some (f i)
theorem RowV.below {w w' : World} {a : Option Addr} {len : Nat} {f : Nat → Value} (h : RowV w a len f) (hb : Below w.heap.size w w') : RowV w' a len f := fun hp => by
  obtain ⟨B, off, e, hc⟩ := h hp
  exact ⟨B, off, e, fun i hi => kept hb (hc i hi)⟩
def ClonedV (len : Nat) (f : Nat → Value) (w : World) (e : Ending) (w' : World) : Prop :=
  ∃ a' cap', e = .returned (.slice a' len cap') ∧ RowV w' a' len f ∧ Below w.heap.size w w'
theorem rowv_ints {k : IntKind} {w : World} {a : Option Addr} {len cap : Nat} {zs : List Int} (h : IsRow k w a len cap zs) : RowV w a len (fun i => .int k (zs.getD i 0)) := by
  intro hp
  rcases h with ⟨_, rfl, _⟩ | ⟨x, rfl, hl, hm, hz, hcell, _⟩
  · omega
  · obtain ⟨b, off, rfl⟩ := spot_none (hcell 0 (by omega))
    exact ⟨b, off, rfl, fun i hi => by rw [← add_none]; exact hcell i (by omega)⟩
theorem rowv_bools {w : World} {a : Option Addr} {len cap : Nat} {zs : List Bool} (h : IsBools w a len cap zs) : RowV w a len (fun i => .bool (zs.getD i false)) := by
  intro hp
  rcases h with ⟨_, rfl, _⟩ | ⟨x, rfl, hl, hm, hz, hcell⟩
  · omega
  · obtain ⟨b, off, rfl⟩ := spot_none (hcell 0 (by omega))
    exact ⟨b, off, rfl, fun i hi => by rw [← add_none]; exact hcell i (by omega)⟩
theorem rowv_strs {w : World} {a : Option Addr} {len cap : Nat} {zs : List ByteArray} (h : IsStrs w a len cap zs) : RowV w a len (fun i => .string (zs.getD i ByteArray.empty)) := by
  intro hp
  rcases h with ⟨_, rfl, _⟩ | ⟨x, rfl, hl, hm, hz, hcell, _⟩
  · omega
  · obtain ⟨b, off, rfl⟩ := spot_none (hcell 0 (by omega))
    exact ⟨b, off, rfl, fun i hi => by rw [← add_none]; exact hcell i (by omega)⟩
theorem len_ints {k : IntKind} {w : World} {a : Option Addr} {len cap : Nat} {zs : List Int} (h : IsRow k w a len cap zs) : len ≤ maxLen ∧ len ≤ zs.length ∧ ∀ i, (Lit.int k (zs.getD i 0)).wf = true ∨ zs.length ≤ i := by
  rcases h with ⟨_, rfl, _, rfl⟩ | ⟨x, rfl, hl, hm, hz, hcell, hw⟩
  · exact ⟨by unfold maxLen; omega, by simp, fun i => .inr (by simp)⟩
  · refine ⟨by omega, by omega, fun i => ?_⟩
    by_cases hi : i < zs.length
    · left; exact hw _ (by simp [List.getD, hi])
    · right; omega
theorem len_bools {w : World} {a : Option Addr} {len cap : Nat} {zs : List Bool} (h : IsBools w a len cap zs) : len ≤ maxLen := by
  rcases h with ⟨_, rfl, _, rfl⟩ | ⟨x, rfl, hl, hm, hz, hcell⟩
  · unfold maxLen; omega
  · omega
theorem len_strs {w : World} {a : Option Addr} {len cap : Nat} {zs : List ByteArray} (h : IsStrs w a len cap zs) : len ≤ maxLen ∧ ∀ i, (zs.getD i ByteArray.empty).size ≤ maxLen := by
  rcases h with ⟨_, rfl, _, rfl⟩ | ⟨x, rfl, hl, hm, hz, hcell, hw⟩
  · exact ⟨by unfold maxLen; omega, fun i => by simp⟩
  · refine ⟨by omega, fun i => ?_⟩
    by_cases hi : i < zs.length
    · exact hw _ (by simp [List.getD, hi])
    · simp [List.getD, hi]

def Ints (cs : Array Value) (n : Nat) (P : Nat → Int → Prop) : Prop := cs.size = n ∧ ∀ j, j < n → ∃ z : Int, cs[j]? = some (.int .i64 z) ∧ P j z
theorem Ints.set {cs : Array Value} {n : Nat} {P Q : Nat → Int → Prop} (h : Ints cs n P) (i : Nat) (z : Int) (hi : Q i z) (hP : ∀ j y, j < n → j ≠ i → P j y → Q j y) : Ints (cs.setIfInBounds i (.int .i64 z)) n Q := by
  refine ⟨by simp [h.1], fun j hj => ?_⟩
  by_cases e : j = i
  · subst e
    exact ⟨z, by simp [h.1, hj], hi⟩
  · obtain ⟨y, hy, hp⟩ := h.2 j hj
    exact ⟨y, by rw [Array.getElem?_setIfInBounds_ne (Ne.symm e)]; exact hy, hP j y hj e hp⟩
theorem Ints.mono {cs : Array Value} {n : Nat} {P Q : Nat → Int → Prop} (h : Ints cs n P) (hP : ∀ j y, j < n → P j y → Q j y) : Ints cs n Q := ⟨h.1, fun j hj => by obtain ⟨y, hy, hp⟩ := h.2 j hj; exact ⟨y, hy, hP j y hj hp⟩⟩
theorem ints_made (n : Nat) (P : Nat → Int → Prop) (h : ∀ j, j < n → P j 0) : Ints (madeCells #[.int .i64 0] n) n P := ⟨by simp [size_madeCells, Value.cells], fun j hj => ⟨0, madeAt _ n j hj, h j hj⟩⟩
def AtP (w : World) (e : Ending) (w' : World) : Prop := ∃ z : Int, e = .returned (.int .i32 z) ∧ -2147483648 ≤ z ∧ z ≤ 2147483647 ∧ w = w'
def SomeB (w : World) (e : Ending) (w' : World) : Prop := ∃ b : Bool, e = .returned (.bool b) ∧ w = w'
set_option maxRecDepth 100000 in
set_option maxHeartbeats 4000000 in
theorem at_ (a : Option Addr) (n cap : Nat) (f : Nat → Int) (i : Nat) (w : World) (hr : RowV w a n (fun i => .int .i32 (f i))) (hf : ∀ j, -2147483648 ≤ f j ∧ f j ≤ 2147483647) (hn : n ≤ 1048576) (hi : i ≤ 1048576) :
    Calls Try.prog 28 #[.slice a n cap, .int .i64 (i : Int)] w (AtP w) := by
  by_cases h : i < n
  · obtain ⟨B, off, rfl, hc⟩ := hr (by omega)
    have c0 := hc i h
    obtain ⟨f0, f1⟩ := hf i
    have lt : decide (i < n) = true := by simpa using h
    clear hc hr hf
    go_enter Try.func28, Try.ntmps28
    go_wp2_with fail
    go_ret
    exact ⟨_, rfl, f0, f1, rfl⟩
  · have lt : decide (i < n) = false := by simpa using h
    clear hr hf
    go_enter Try.func28, Try.ntmps28
    go_wp2_with fail
    go_ret
    exact ⟨_, rfl, by omega, by omega, rfl⟩
set_option maxRecDepth 100000 in
set_option maxHeartbeats 4000000 in
theorem flag (a : Option Addr) (n cap : Nat) (f : Nat → Bool) (i : Nat) (w : World) (hr : RowV w a n (fun i => .bool (f i))) (hn : n ≤ 1048576) (hi : i ≤ 1048576) :
    Calls Try.prog 29 #[.slice a n cap, .int .i64 (i : Int)] w (SomeB w) := by
  by_cases h : i < n
  · obtain ⟨B, off, rfl, hc⟩ := hr (by omega)
    have c0 := hc i h
    have lt : decide (i < n) = true := by simpa using h
    clear hc hr
    go_enter Try.func29, Try.ntmps29
    go_wp2_with fail
    go_ret
    exact ⟨_, rfl, rfl⟩
  · have lt : decide (i < n) = false := by simpa using h
    clear hr
    go_enter Try.func29, Try.ntmps29
    go_wp2_with fail
    go_ret
    exact ⟨_, rfl, rfl⟩

/-- The kind of node j. -/
def kd (zs : List Int) (j : Nat) : Int := zs.getD j 0 % 5
/-- A parent's number that is fit: none, or that of an earlier node that is no name. -/
def ParOk (zs : List Int) (j : Nat) (z : Int) : Prop := z < 0 ∨ ∃ q : Nat, z = (q : Int) ∧ q < j ∧ kd zs q ≠ 0
def ShR (n : Nat) (zs : List Int) (w : World) (i : Value) (wr : World) : Prop :=
  ∃ (j : Nat) (cs ds es : Array Value), j ≤ n ∧ i = .int .i64 j ∧ Hid (At wr w.heap.size 3 cs) ∧ Hid (At wr (w.heap.size + 1) 3 ds) ∧ Hid (At wr (w.heap.size + 2) 3 es) ∧ Hid (Ints cs n (fun q z => q < j → ParOk zs q z)) ∧ Hid (Ints ds n (fun _ _ => True)) ∧ Hid (Ints es n (fun _ z => 0 ≤ z ∧ z ≤ j)) ∧ Hid (Below w.heap.size w wr)
def ShP (n : Nat) (zs : List Int) (w : World) (e : Ending) (w' : World) : Prop :=
  ∃ (cs ds : Array Value), e = .returned (.tuple #[.slice (some ⟨w.heap.size, 0, none⟩) n n, .slice (some ⟨w.heap.size + 1, 0, none⟩) n n]) ∧ At w' w.heap.size 3 cs ∧ At w' (w.heap.size + 1) 3 ds ∧ Ints cs n (ParOk zs) ∧ Ints ds n (fun _ _ => True) ∧ Below w.heap.size w w'
set_option maxRecDepth 100000 in
set_option maxHeartbeats 4000000 in
theorem shape (B off n cap : Nat) (zs : List Int) (a1 : Option Addr) (n1 cap1 : Nat) (f : Nat → Int) (w : World) (hc : ∀ i, i < n → w.cell? ⟨B, off + i, none⟩ = some (.int .u8 (zs.getD i 0))) (hz : ∀ i, 0 ≤ zs.getD i 0 ∧ zs.getD i 0 ≤ 255) (hr : RowV w a1 n1 (fun i => .int .i32 (f i))) (hf : ∀ j, -2147483648 ≤ f j ∧ f j ≤ 2147483647) (hn1 : n1 ≤ 65536) (hn : n ≤ 65536) (h0 : 0 < n) :
    Calls Try.prog 16 #[.slice (some ⟨B, off, none⟩) n cap, .slice a1 n1 cap1] w (ShP n zs w) := by
  have hmk := fun (w : World) => made (P := Try.prog) (t := 42) (e := 3) (z := .int .i64 0) (sz := 1) (by_ := 8) Try.underlying42 (by kernel_rfl) w n (by omega) (by omega)
  simp only [Nat.mul_one] at hmk
  have HC0 := Lib.hid hc
  have HZ := Lib.hid hz
  have HR := Lib.hid hr
  have HF := Lib.hid hf
  clear hc hz hr hf
  go_enter Try.func16, Try.ntmps16
  go_wp2_with fail
  clear hmk
  go_loopw [10] (fun i wr => ShR n zs w i wr) (fun i _ => n - (intOf i).toNat)
  case atStart => exact ⟨0, _, _, _, Nat.zero_le _, rfl, Lib.hid (((At.new w 3 _).alloc _).alloc _), Lib.hid (by have := (At.new (w.alloc (.cells (madeCells #[Value.int .i64 0] n) 3)) 3 (madeCells #[Value.int .i64 0] n)).alloc (.cells (madeCells #[Value.int .i64 0] n) 3); simpa using this), Lib.hid (by have := At.new ((w.alloc (.cells (madeCells #[Value.int .i64 0] n) 3)).alloc (.cells (madeCells #[Value.int .i64 0] n) 3)) 3 (madeCells #[Value.int .i64 0] n); simpa using this), Lib.hid (ints_made n _ (fun j hj h => absurd h (by omega))), Lib.hid (ints_made n _ (fun j hj => trivial)), Lib.hid (ints_made n _ (fun j hj => ⟨by omega, by omega⟩)), Lib.hid (by repeat (first | exact Below.refl _ _ | (with_reducible refine Below.alloc ?_ (by simp; try omega) _)))⟩
  case round =>
    obtain ⟨j, cs, ds, es, hj, rfl, HA, HB, HC, HI, HD, HE, HBL⟩ := hrel
    have lz := HA.out.lt
    have lz1 := HB.out.lt
    have lz2 := HC.out.lt
    by_cases hlt : j < n
    · have lt : decide (j < n) = true := by simpa using hlt
      obtain ⟨y0, x0, _⟩ := HI.out.2 j hlt
      obtain ⟨y1, x1, _⟩ := HD.out.2 j hlt
      have c0 := (HA.out.cell j).trans x0
      have c1 := (HB.out.cell j).trans x1
      have f0 := HA.out.frozen j
      have f1 := HB.out.frozen j
      clear x0 x1
      by_cases hj0 : j = 0
      · subst hj0
        go_wp2_with fail
        go_roundw
        case measure => simp [intOf]; omega
        case rel =>
          have h1 := HA.out; have h2 := HB.out; have h3 := HC.out; have h4 := HBL.out
          exact ⟨0 + 1, _, _, _, by omega, by go_num, Lib.hid (by repeat (first | assumption | (with_reducible refine At.alloc ?_ _) | (with_reducible refine At.set ?_ _ _) | (with_reducible refine At.far ?_ (by simp <;> omega) _))), Lib.hid (by repeat (first | assumption | (with_reducible refine At.alloc ?_ _) | (with_reducible refine At.set ?_ _ _) | (with_reducible refine At.far ?_ (by simp <;> omega) _))), Lib.hid (by repeat (first | assumption | (with_reducible refine At.alloc ?_ _) | (with_reducible refine At.set ?_ _ _) | (with_reducible refine At.far ?_ (by simp <;> omega) _))), Lib.hid (HI.out.set 0 _ (fun _ => .inl (by omega)) (fun q y hq hne hp h => absurd h (by omega))), Lib.hid (HD.out), Lib.hid (HE.out.mono (fun q y hq hp => ⟨hp.1, by omega⟩)), Lib.hid (by repeat (first | assumption | (with_reducible refine Below.alloc ?_ (by simp; try omega) _) | (with_reducible refine Below.setCell ?_ (by simp; try omega) _)))⟩
      · have hj0' : ((j : Int) == 0) = false := by simpa using hj0
        have hj0'' : (j == 0) = false := by simpa using hj0
        have HCL := Lib.hid (at_ a1 n1 cap1 f j wr (fun hp => by obtain ⟨b, o, e, hc⟩ := HR.out hp; exact ⟨b, o, e, fun i hi => kept HBL.out (hc i hi)⟩) HF.out (by omega) (by omega))
        go_wp2_with fail
        refine HCL.out.mono ?_
        rintro e w' ⟨z, rfl, hz0, hz1, rfl⟩
        obtain ⟨u, hu, hu0, hu1⟩ : ∃ u : Int, IntKind.u32.wrap z = u ∧ 0 ≤ u ∧ u ≤ 4294967295 := ⟨_, rfl, by unfold IntKind.wrap; simp [IntKind.bits, IntKind.signed]; omega, by unfold IntKind.wrap; simp [IntKind.bits, IntKind.signed]; omega⟩
        obtain ⟨p, hp, hpj⟩ : ∃ p : Nat, u % (j : Int) = (p : Int) ∧ p < j := ⟨(u % (j : Int)).toNat, by have := Int.emod_nonneg u (show (j : Int) ≠ 0 by omega); omega, by have := Int.emod_nonneg u (show (j : Int) ≠ 0 by omega); have := Int.emod_lt_of_pos u (show (0 : Int) < j by omega); omega⟩
        have hpn : p < n := by omega
        obtain ⟨yp, xp, pp⟩ := HI.out.2 p hpn
        obtain ⟨yk, xk, pk0, pk1⟩ := HE.out.2 p hpn
        have PP := Lib.hid (pp hpj)
        have cp := (HA.out.cell p).trans xp
        have ck := (HC.out.cell p).trans xk
        have fk := HC.out.frozen p
        have cz : wr.cell? ⟨B, off + p, none⟩ = some (.int .u8 (zs.getD p 0)) := kept HBL.out (HC0.out p hpn)
        obtain ⟨zp, hzp⟩ : ∃ zp, zp = zs.getD p 0 := ⟨_, rfl⟩
        obtain ⟨z0, z1⟩ := HZ.out p
        have KD := Lib.hid (show kd zs p = zp % 5 by rw [hzp]; rfl)
        rw [← hzp] at cz z0 z1
        clear hzp xp xk pp HCL
        by_cases hm2 : yp = -2
        · subst hm2
          go_wp2_with fail
          go_roundw
          case measure => simp [intOf]; omega
          case rel =>
            have h1 := HA.out; have h2 := HB.out; have h3 := HC.out; have h4 := HBL.out
            exact ⟨j + 1, _, _, _, by omega, by go_num, Lib.hid (by repeat (first | assumption | (with_reducible refine At.alloc ?_ _) | (with_reducible refine At.set ?_ _ _) | (with_reducible refine At.far ?_ (by simp <;> omega) _))), Lib.hid (by repeat (first | assumption | (with_reducible refine At.alloc ?_ _) | (with_reducible refine At.set ?_ _ _) | (with_reducible refine At.far ?_ (by simp <;> omega) _))), Lib.hid (by repeat (first | assumption | (with_reducible refine At.alloc ?_ _) | (with_reducible refine At.set ?_ _ _) | (with_reducible refine At.far ?_ (by simp <;> omega) _))), Lib.hid (HI.out.set j _ (fun _ => .inl (by omega)) (fun q y hq hne hp h => hp (by omega))), Lib.hid (HD.out), Lib.hid (HE.out.mono (fun q y hq hp => ⟨hp.1, by omega⟩)), Lib.hid (by repeat (first | assumption | (with_reducible refine Below.alloc ?_ (by simp; try omega) _) | (with_reducible refine Below.setCell ?_ (by simp; try omega) _)))⟩
        · have hm2' : (yp == -2) = false := by simpa using hm2
          obtain ⟨k, hk, hk0, hk5⟩ : ∃ k : Int, zp % 5 = k ∧ 0 ≤ k ∧ k ≤ 4 := ⟨_, rfl, by omega, by omega⟩
          rw [hk] at KD
          have hcase : (k = 0 ∨ (3 ≤ k ∧ 2 ≤ yk)) ∨ (k ≠ 0 ∧ ((3 ≤ k ∧ yk < 2) ∨ k < 3)) := by omega
          rcases hcase with (rfl | ⟨h3, h4⟩) | ⟨hk1, ⟨h3, h4⟩ | h3⟩
          · go_wp2_with fail
            go_roundw
            case measure => simp [intOf]; omega
            case rel =>
              have h1 := HA.out; have h2 := HB.out; have h3 := HC.out; have h4 := HBL.out
              exact ⟨j + 1, _, _, _, by omega, by go_num, Lib.hid (by repeat (first | assumption | (with_reducible refine At.alloc ?_ _) | (with_reducible refine At.set ?_ _ _) | (with_reducible refine At.far ?_ (by simp <;> omega) _))), Lib.hid (by repeat (first | assumption | (with_reducible refine At.alloc ?_ _) | (with_reducible refine At.set ?_ _ _) | (with_reducible refine At.far ?_ (by simp <;> omega) _))), Lib.hid (by repeat (first | assumption | (with_reducible refine At.alloc ?_ _) | (with_reducible refine At.set ?_ _ _) | (with_reducible refine At.far ?_ (by simp <;> omega) _))), Lib.hid (HI.out.set j _ (fun _ => .inl (by omega)) (fun q y hq hne hp h => hp (by omega))), Lib.hid (HD.out), Lib.hid (HE.out.mono (fun q y hq hp => ⟨hp.1, by omega⟩)), Lib.hid (by repeat (first | assumption | (with_reducible refine Below.alloc ?_ (by simp; try omega) _) | (with_reducible refine Below.setCell ?_ (by simp; try omega) _)))⟩
          · have h0' : (k == 0) = false := by simp; omega
            have h3' : decide (3 ≤ k) = true := by simpa using h3
            have h4' : decide (2 ≤ yk) = true := by simpa using h4
            go_wp2_with fail
            go_roundw
            case measure => simp [intOf]; omega
            case rel =>
              have h1 := HA.out; have h2 := HB.out; have h3 := HC.out; have h4 := HBL.out
              exact ⟨j + 1, _, _, _, by omega, by go_num, Lib.hid (by repeat (first | assumption | (with_reducible refine At.alloc ?_ _) | (with_reducible refine At.set ?_ _ _) | (with_reducible refine At.far ?_ (by simp <;> omega) _))), Lib.hid (by repeat (first | assumption | (with_reducible refine At.alloc ?_ _) | (with_reducible refine At.set ?_ _ _) | (with_reducible refine At.far ?_ (by simp <;> omega) _))), Lib.hid (by repeat (first | assumption | (with_reducible refine At.alloc ?_ _) | (with_reducible refine At.set ?_ _ _) | (with_reducible refine At.far ?_ (by simp <;> omega) _))), Lib.hid (HI.out.set j _ (fun _ => .inl (by omega)) (fun q y hq hne hp h => hp (by omega))), Lib.hid (HD.out), Lib.hid (HE.out.mono (fun q y hq hp => ⟨hp.1, by omega⟩)), Lib.hid (by repeat (first | assumption | (with_reducible refine Below.alloc ?_ (by simp; try omega) _) | (with_reducible refine Below.setCell ?_ (by simp; try omega) _)))⟩
          · have h1' : (k == 0) = false := by simpa using hk1
            have h3' : decide (3 ≤ k) = true := by simpa using h3
            have h4' : decide (2 ≤ yk) = false := by simpa using h4
            go_wp2_with fail
            go_roundw
            case measure => simp [intOf]; omega
            case rel =>
              have h1 := HA.out; have h2 := HB.out; have h3 := HC.out; have h4 := HBL.out
              exact ⟨j + 1, _, _, _, by omega, by go_num, Lib.hid (by repeat (first | assumption | (with_reducible refine At.alloc ?_ _) | (with_reducible refine At.set ?_ _ _) | (with_reducible refine At.far ?_ (by simp <;> omega) _))), Lib.hid (by repeat (first | assumption | (with_reducible refine At.alloc ?_ _) | (with_reducible refine At.set ?_ _ _) | (with_reducible refine At.far ?_ (by simp <;> omega) _))), Lib.hid (by repeat (first | assumption | (with_reducible refine At.alloc ?_ _) | (with_reducible refine At.set ?_ _ _) | (with_reducible refine At.far ?_ (by simp <;> omega) _))), Lib.hid (HI.out.set j _ (fun _ => .inr ⟨p, rfl, hpj, by rw [KD.out]; exact hk1⟩) (fun q y hq hne hp h => hp (by omega))), Lib.hid (HD.out.set j _ trivial (fun q y hq hne _ => trivial)), Lib.hid ((HE.out.mono (fun q y hq hp => ⟨hp.1, by omega⟩)).set p _ ⟨by omega, by omega⟩ (fun q y hq hne hp => hp)), Lib.hid (by repeat (first | assumption | (with_reducible refine Below.alloc ?_ (by simp; try omega) _) | (with_reducible refine Below.setCell ?_ (by simp; try omega) _)))⟩
          · have h1' : (k == 0) = false := by simpa using hk1
            have h3' : decide (3 ≤ k) = false := by simpa using h3
            go_wp2_with fail
            go_roundw
            case measure => simp [intOf]; omega
            case rel =>
              have h1 := HA.out; have h2 := HB.out; have h3 := HC.out; have h4 := HBL.out
              exact ⟨j + 1, _, _, _, by omega, by go_num, Lib.hid (by repeat (first | assumption | (with_reducible refine At.alloc ?_ _) | (with_reducible refine At.set ?_ _ _) | (with_reducible refine At.far ?_ (by simp <;> omega) _))), Lib.hid (by repeat (first | assumption | (with_reducible refine At.alloc ?_ _) | (with_reducible refine At.set ?_ _ _) | (with_reducible refine At.far ?_ (by simp <;> omega) _))), Lib.hid (by repeat (first | assumption | (with_reducible refine At.alloc ?_ _) | (with_reducible refine At.set ?_ _ _) | (with_reducible refine At.far ?_ (by simp <;> omega) _))), Lib.hid (HI.out.set j _ (fun _ => .inr ⟨p, rfl, hpj, by rw [KD.out]; exact hk1⟩) (fun q y hq hne hp h => hp (by omega))), Lib.hid (HD.out.set j _ trivial (fun q y hq hne _ => trivial)), Lib.hid ((HE.out.mono (fun q y hq hp => ⟨hp.1, by omega⟩)).set p _ ⟨by omega, by omega⟩ (fun q y hq hne hp => hp)), Lib.hid (by repeat (first | assumption | (with_reducible refine Below.alloc ?_ (by simp; try omega) _) | (with_reducible refine Below.setCell ?_ (by simp; try omega) _)))⟩
    · obtain rfl : j = n := by omega
      have lt : decide (j < j) = false := by simp
      go_wp2_with fail
      exact bodyPost_ret (v := .tuple #[.slice (some ⟨w.heap.size, 0, none⟩) j j, .slice (some ⟨w.heap.size + 1, 0, none⟩) j j]) (by simp [results, Try.results16, go_sem]) rfl ⟨cs, ds, rfl, HA.out, HB.out, HI.out.mono (fun q y hq hp => hp hq), HD.out, HBL.out⟩
end Go.Proofs.Ytjcblmbndkacgaa
