/- Proved here: the walk of the law FnPushScopeForVisitPassReplaysFirstPass, for every input. -/
import Derived.Test.YthgcchgpplblbaaFmtVPB
import Derived.WalkKit
import Derived.WalkSpells
import Derived.WalkLawsBesides
import Derived.Lib.Hide
import Derived.Lib.SliceRun
import Derived.Deep.RegionWith
import Derived.OwnWalk
import Derived.Deep.RegionHeld3
import Derived.Deep.RegionLaw
import Derived.Deep.AppendLies
import Derived.StillTactics
import Derived.Laws.OwnMore
import Derived.Laws.CopyRow
import Derived.Laws.CopyOwn
import Derived.Deep.DeepCutAuto
import Derived.Deep.QuietTactic
import Derived.BigQuiet
import Derived.IntWalk
namespace Go.Proofs.YthgcchgpplblbaaFmt.fnPushScopeForVisitPassReplaysFirstPass
open Go.RowKit
set_option linter.unusedSimpArgs false
set_option linter.unusedVariables false

open Go.IntWalk in
theorem i64_in' (x : Int) (h0 : -9223372036854775808 ≤ x) (h1 : x ≤ 9223372036854775807) : IntKind.i64.wrap x = x := by exact i64_in x ⟨h0, h1⟩
def SC (w : World) (S p : Nat) (cs : Array Value) (z0 : List Int) (j : Nat) : Prop := ∀ t, t < j → ∃ b, cs[t]? = some (.pointer (some ⟨b, 0, none⟩)) ∧ w.cell? ⟨b, 15, none⟩ = some (.int .u8 (z0.getD t 0)) ∧ S < b ∧ b < p
def L1 (V : World) (n : Nat) (z0 : List Int) (i : Value) (wr : World) : Prop :=
  ∃ (j : Nat) (cs : Array Value), j ≤ n ∧ i = .int .i64 j ∧ Hid (At wr V.heap.size 26 cs) ∧ Hid (cs.size = n) ∧ Hid (SC wr V.heap.size wr.heap.size cs z0 j) ∧ Hid (Below V.heap.size V wr)
def RowV (w : World) (a : Option Addr) (len : Nat) (f : Nat → Value) : Prop :=
  0 < len → ∃ B off, a = some ⟨B, off, none⟩ ∧ ∀ i, i < len → w.cell? ⟨B, off + i, none⟩ = some (f i)
theorem RowV.below {w w' : World} {a : Option Addr} {len : Nat} {f : Nat → Value} (h : RowV w a len f) (hb : Below w.heap.size w w') : RowV w' a len f := fun hp => by
  obtain ⟨B, off, e, hc⟩ := h hp
  exact ⟨B, off, e, fun i hi => kept hb (hc i hi)⟩
theorem rowv_ints {k : IntKind} {w : World} {a : Option Addr} {len cap : Nat} {zs : List Int} (h : IsRow k w a len cap zs) : RowV w a len (fun i => .int k (zs.getD i 0)) := by
  intro hp
  rcases h with ⟨_, rfl, _⟩ | ⟨x, rfl, hl, hm, hz, hcell, _⟩
  · omega
  · obtain ⟨b, off, rfl⟩ := spot_none (hcell 0 (by omega))
    exact ⟨b, off, rfl, fun i hi => by rw [← add_none]; exact hcell i (by omega)⟩
theorem len_ints {k : IntKind} {w : World} {a : Option Addr} {len cap : Nat} {zs : List Int} (h : IsRow k w a len cap zs) : len ≤ maxLen := by
  rcases h with ⟨_, rfl, _, rfl⟩ | ⟨x, rfl, hl, hm, hz, hcell, hw⟩
  · unfold maxLen; omega
  · omega
theorem kb_cell {B p Q b o : Nat} {w w' : World} {v : Value} (h : KB B p Q w w') (hb : b < B) (h1 : b ≠ p) (h2 : b ≠ Q) (hc : w.cell? ⟨b, o, none⟩ = some v) : w'.cell? ⟨b, o, none⟩ = some v :=
  (World.cell?_of_block (a := ⟨b, o, none⟩) (h.2 b hb h1 h2)).trans hc
theorem KB.trans {B p Q : Nat} {w w1 w2 : World} (h1 : KB B p Q w w1) (h2 : KB B p Q w1 w2) : KB B p Q w w2 :=
  ⟨Nat.le_trans h1.1 h2.1, fun b hb hp hq => (h2.2 b hb hp hq).trans (h1.2 b hb hp hq)⟩
theorem KB.drewN {B p Q : Nat} {w w1 : World} (h1 : KB B p Q w w1) (n : Nat) : KB B p Q w (w1.drewN n) := h1
@[local go_sem] theorem pn26s (a : Nat) (w : World) : (binOp .neq 26 (.pointer (some ⟨a, 0, none⟩)) (.pointer (some ⟨a, 0, none⟩))).run Tryf.prog w = .ok (.bool false) w := pn26 _ w
theorem PP.below {w w' : World} {p O off k : Nat} {cur part : Value} (h : PP w p O off k cur part) (hb : Below w.heap.size w w') : PP w' p O off k cur part := by
  obtain ⟨⟨a, h1, ha⟩, f1, h2, f2, h3, f3⟩ := h
  exact ⟨⟨a, kept hb h1, ha⟩, keptF hb h1 f1, kept hb h2, keptF hb h2 f2, kept hb h3, keptF hb h3 f3⟩
theorem KB.refl (B p Q : Nat) (w : World) : KB B p Q w w := ⟨Nat.le_refl _, fun _ _ _ _ => rfl⟩
theorem heapCell {w w' : World} (h : w'.heap = w.heap) (a : Addr) : w'.cell? a = w.cell? a := World.cell?_of_block (congrArg (fun x => x[a.block]?) h)
theorem heapFz {w w' : World} (h : w'.heap = w.heap) (a : Addr) : w'.frozen? a = w.frozen? a := World.frozen?_of_block (congrArg (fun x => x[a.block]?) h)
theorem QS.form {w : World} {B Q n : Nat} {xs : List Value} (h : QS w B Q n xs) (hn : 0 < n) : ∃ g c, w.cell? ⟨Q, 1, none⟩ = some (.slice (some ⟨g, 0, none⟩) n c) ∧ ∀ j, j < n → w.cell? ⟨g, j, none⟩ = xs[j]? := by
  obtain ⟨a, c, hq, _, hown⟩ := h
  obtain ⟨g, c', e⟩ : ∃ g c', (Value.slice a n c) = .slice (some ⟨g, 0, none⟩) n c' := by
    obtain ⟨_, ⟨e, rfl⟩ | ⟨g, cap, cur, e, _⟩⟩ := hown
    · omega
    · exact ⟨g, cap, e⟩
  simp only [Value.slice.injEq] at e
  obtain ⟨rfl, _, rfl⟩ := e
  exact ⟨g, _, hq, fun j hj => World.ownsRow.cellAt hown j (by omega)⟩
theorem takeNext (cs : Array Value) (j : Nat) (v : Value) (h : cs[j]? = some v) : cs.toList.take j ++ [v] = cs.toList.take (j + 1) := by
  rw [List.take_add_one]
  simp [h]
def L3 (V Vc : World) (n : Nat) (i : Value) (wr : World) : Prop := ∃ t : Nat, t ≤ n ∧ i = .int .i64 t ∧ Hid (wr.heap = Vc.heap) ∧ Hid (Below V.heap.size V wr)
def L2 (W0 Vb : World) (B p Q O n : Nat) (part : Value) (qs : Bool) (cs : Array Value) (i : Value) (wr : World) : Prop :=
  ∃ (j : Nat) (cur : Value), j ≤ n ∧ i = .int .i64 j ∧ Hid (PP wr p O (2 * j) (n - j) cur part) ∧ Hid (qs = true → QS wr B Q j (cs.toList.take j)) ∧ Hid (KB B p Q Vb wr) ∧ Hid (Below W0.heap.size W0 wr)

set_option maxRecDepth 100000 in
set_option maxHeartbeats 16000000 in
theorem walk (a0 : Option Addr) (len0 cap0 : Nat) (z0 : List Int) (a1 : Option Addr) (len1 cap1 : Nat) (z1 : List Int) (a2 : Bool) (w : World) (w0 : IsRow .u8 w a0 len0 cap0 z0) (w1 : IsRow .i32 w a1 len1 cap1 z1) :
    Calls Tryf.prog 3 #[.slice a0 len0 cap0, .slice a1 len1 cap1, .bool a2] w fun e w' => e = .returned (.bool true) ∧ Below w.heap.size w w' := by
  have m0 := len_ints w0
  have m1 := len_ints w1
  unfold maxLen at m0 m1
  have G5 := Lib.hid (b5 a0 len0 cap0 a1 len1 cap1 a2 w (by omega) (by omega))
  have R0 := Lib.hid (rowv_ints w0)
  have W1 := Lib.hid w1
  clear w0 w1
  go_enter Tryf.func3, Tryf.ntmps3
  go_wp2_with fail
  refine G5.out.mono ?_
  rintro e w' ⟨b, rfl, rfl⟩
  clear G5
  cases b
  · go_wp2_with fail
    go_ret
    exact ⟨rfl, Below.refl _ _⟩
  by_cases l0 : len0 ≤ 4096
  case neg =>
    go_wp2_with fail
    go_ret
    exact ⟨rfl, Below.refl _ _⟩
  by_cases l1 : len1 ≤ 4096
  case neg =>
    go_wp2_with fail
    go_ret
    exact ⟨rfl, Below.refl _ _⟩
  by_cases le : len0 = len1
  case neg =>
    have le1 : ((len0 : Int) != (len1 : Int)) = true := by simp; omega
    go_wp2_with fail
    go_ret
    exact ⟨rfl, Below.refl _ _⟩
  obtain ⟨n, hn⟩ : ∃ n, n = len0 := ⟨_, rfl⟩
  subst le
  subst hn
  go_upto_if 35 with (fail)
  go_cut [1, 7] from 36 to 42 (fun s1 s7 wx => ∃ aL capL, s1 = .slice aL n capL ∧ Hid (RowV wx aL n (fun i => .int .i32 (z1.getD i 0))) ∧ Hid (Below w.heap.size w wx))
  case first =>
    rcases W1.out with ⟨rfl, rfl, rfl, _⟩ | ⟨x, rfl, hl, hm, hz, hcell, hwz⟩
    · go_wp2_with fail
      go_meet
      exact ⟨none, 0, rfl, Lib.hid (fun h => absurd h (by omega)), Lib.hid (Below.refl _ _)⟩
    · have hmk := made (P := Tryf.prog) (t := 23) (e := 21) (z := .int .i32 0) (sz := 1) (by_ := 4) Tryf.underlying23 (by kernel_rfl) w n (by omega) (by omega)
      rw [Nat.mul_one] at hmk
      obtain ⟨w2, hcp, hc2, hb2⟩ := copied w x n cap1 z1 (by omega) hcell
      go_wp2_with fail
      go_meet
      exact ⟨some ⟨w.heap.size, 0, none⟩, n, rfl, Lib.hid (fun _ => ⟨w.heap.size, 0, rfl, fun i hi => by rw [Nat.zero_add]; exact hc2 i hi⟩), Lib.hid hb2⟩
  case rest =>
  rename World => V
  obtain ⟨aL, capL, rfl, RL, BV⟩ := hcut
  have RK := Lib.hid (RowV.below R0.out BV.out)
  clear R0 W1
  have hmk := made (P := Tryf.prog) (t := 25) (e := 26) (z := .pointer none) (sz := 1) (by_ := 8) Tryf.underlying25 (by kernel_rfl) V n (by omega) (by omega)
  rw [Nat.mul_one] at hmk
  go_wp2_with fail
  clear hmk
  go_loopw [10] (fun i wr => L1 V n z0 i wr) (fun i _ => n - (intOf i).toNat)
  case atStart => exact ⟨0, _, by omega, rfl, Lib.hid (At.new _ _ _), Lib.hid (by simp [size_madeCells, Value.cells]), Lib.hid (fun t ht => absurd ht (by omega)), Lib.hid ((Below.refl _ _).alloc (Nat.le_refl _) _)⟩
  case round =>
    obtain ⟨j, cs, hj, rfl, AS, HZ, HSC, HB⟩ := hrel
    by_cases hlt : j < n
    · obtain ⟨K, ko, e0, hc0⟩ := (RowV.below RK.out HB.out) (by omega)
      have c0 : wr.cell? ⟨K, ko + j, none⟩ = some (.int .u8 (z0.getD j 0)) := hc0 j hlt
      clear hc0
      subst e0
      have d0 : wr.cell? ⟨V.heap.size, j, none⟩ = some (cs[j]'(by have := HZ.out; omega)) := by rw [AS.out.cell]; simp
      have df := AS.out.frozen j
      have lS := AS.out.lt
      have hk0 : (0 : Int) ≤ (j : Int) := Int.natCast_nonneg _
      have hk1 : (j : Int) < (n : Int) := by omega
      obtain ⟨kd, hkd⟩ : ∃ kd, kd = z0.getD j 0 := ⟨_, rfl⟩
      rw [← hkd] at c0
      have HK := Lib.hid hkd
      clear hkd
      go_wp2_with fail
      go_roundw
      case rel =>
        refine ⟨j + 1, _, by omega, by go_num, Lib.hid (At.alloc (AS.out.set j (.pointer (some ⟨wr.heap.size, 0, none⟩))) _), Lib.hid (by simp [HZ.out]), Lib.hid ?_, Lib.hid ((HB.out.setCell (Nat.le_refl _) _).alloc (by have := HB.out.size; simp; omega) _)⟩
        intro t ht
        by_cases e : t = j
        · subst e
          exact ⟨wr.heap.size, by simp [HZ.out, hlt], by rw [← HK.out]; simp [go_sem], lS, by simp⟩
        · obtain ⟨b, h1, h2, h3, h4⟩ := HSC.out t (by omega)
          exact ⟨b, by rw [Array.getElem?_setIfInBounds_ne (by omega)]; exact h1, kAlloc (kSet h2 (by omega)), h3, by simp; omega⟩
      case measure => simp [intOf]; omega
    · have e : j = n := by omega
      subst e
      have e9 : decide (j < j) = false := by simp
      go_wp2_with fail
      clear e9
      obtain ⟨n, hn⟩ : ∃ n, n = j := ⟨_, rfl⟩
      subst hn
      obtain ⟨M, hM⟩ : ∃ M, M = wr.heap.size := ⟨_, rfl⟩
      obtain ⟨V1, hV1⟩ : ∃ W, W = wr.alloc (.cells #[.pointer none, .pointer none, .slice none 0 0, .map none, .slice none 0 0, .slice none 0 0, .int .i32 0, .int .i32 0, .int .u32 0, .int .u32 0, .bool false, .bool false, .bool false, .bool false, .int .u8 0, .int .u8 6] 41) := ⟨_, rfl⟩
      rw [← hV1]
      have AS1 := Lib.hid (show At V1 V.heap.size 26 cs from by rw [hV1]; exact At.alloc AS.out _)
      have SC1 := Lib.hid (show SC V1 V.heap.size M cs z0 n from by rw [hV1, hM]; exact fun t ht => by obtain ⟨b, h1, h2, h3, h4⟩ := HSC.out t ht; exact ⟨b, h1, kAlloc h2, h3, h4⟩)
      have M1 := Lib.hid (show V1.cell? ⟨M, 5, none⟩ = some (.slice none 0 0) from by rw [hV1, hM]; simp [go_sem])
      have B1 := Lib.hid (show Below V.heap.size V V1 from by rw [hV1]; exact HB.out.alloc (by have := HB.out.size; omega) _)
      have zM : M < V1.heap.size := by rw [hV1, hM]; simp
      have zS : V.heap.size < M := by rw [hM]; exact AS.out.lt
      rw [← hM]
      clear hV1 hM AS HSC HB
      refine (newP (some ⟨M, 0, none⟩) V1).mono ?_
      rintro e w2 ⟨rfl, hp2, hb2⟩
      have P2 := Lib.hid hp2
      have BB2 := Lib.hid hb2
      clear hp2 hb2
      obtain ⟨p, hp⟩ : ∃ p, p = V1.heap.size := ⟨_, rfl⟩
      rw [← hp] at P2 ⊢
      have zp : p < w2.heap.size := World.block_lt_of_cell? _ _ (P2.out.2.2.1)
      have AS2 := Lib.hid (show At w2 V.heap.size 26 cs from At.below AS1.out BB2.out (by omega))
      have SC2 := Lib.hid (show SC w2 V.heap.size p cs z0 n from fun t ht => by obtain ⟨b, h1, h2, h3, h4⟩ := SC1.out t ht; exact ⟨b, h1, kept BB2.out h2, h3, by omega⟩)
      have M2 := Lib.hid (show w2.cell? ⟨M, 5, none⟩ = some (.slice none 0 0) from kept BB2.out M1.out)
      have B2 := Lib.hid (show Below V.heap.size V w2 from B1.out.trans (BB2.out.mono (by omega)))
      have zpM : M < p := by omega
      clear hp AS1 SC1 M1 B1 BB2
      obtain ⟨L, loff, hL⟩ : ∃ L loff, 0 < n → aL = some ⟨L, loff, none⟩ ∧ n ≤ n ∧ ∀ j, j < n → w2.cell? ⟨L, loff + j, none⟩ = some (.int .i32 (z1.getD j 0)) := by
        by_cases h0 : 0 < n
        · obtain ⟨B, off, e, hc⟩ := (RowV.below RL.out B2.out) h0
          exact ⟨B, off, fun _ => ⟨e, Nat.le_refl _, hc⟩⟩
        · exact ⟨0, 0, fun h => absurd h h0⟩
      have HS := Lib.hid (setOrder V.heap.size p V.heap.size L loff n n n capL 0 0 cs z1 aL _ _ w2 (by omega) (by omega) AS2.out HZ.out (fun t ht => by obtain ⟨b, h1, _⟩ := SC2.out t ht; exact ⟨b, h1⟩) hL (by omega) P2.out (by omega))
      clear hL
      go_wp2_with fail
      refine HS.out.mono ?_
      rintro e w3 ⟨rfl, ⟨ds, hds1, hds2⟩, hp3, hk3, hb3, hz3⟩
      obtain ⟨O, hO⟩ : ∃ O, O = w2.heap.size := ⟨_, rfl⟩
      rw [← hO] at hds1 hp3 hk3 hz3
      have AO3 := Lib.hid hds1
      have DS := Lib.hid hds2
      have P3 := Lib.hid hp3
      have AS3 := Lib.hid (show At w3 V.heap.size 26 cs from (hk3.2 _ (by omega) (by omega) (by omega)).trans AS2.out)
      have SC3 := Lib.hid (show SC w3 V.heap.size p cs z0 n from fun t ht => by obtain ⟨b, h1, h2, h3, h4⟩ := SC2.out t ht; exact ⟨b, h1, kb_cell hk3 (by omega) (by omega) (by omega) h2, h3, h4⟩)
      have M3 := Lib.hid (show w3.cell? ⟨M, 5, none⟩ = some (.slice none 0 0) from kb_cell hk3 (by omega) (by omega) (by omega) M2.out)
      have B3 := Lib.hid (show Below V.heap.size V w3 from B2.out.trans hb3)
      have zO : p < O := by omega
      have zO3 : O < w3.heap.size := hz3
      clear hds1 hds2 hp3 hk3 hb3 hz3 hO HS AS2 SC2 M2 B2 P2
      cases a2
      · go_wp2_with fail
        have Pb := P3
        have ASb := AS3
        have AOb := AO3
        have SCb := SC3
        have Mb := M3
        have Bb := B3
        clear P3 AS3 AO3 SC3 M3 B3
        have zb : O < w3.heap.size := by omega
        go_loopw [14] (fun i wr => L2 V w3 w3.heap.size p p O n (.pointer none) false cs i wr) (fun i _ => n - (intOf i).toNat)
        case atStart => exact ⟨0, _, by omega, rfl, Lib.hid (show PP w3 p O 0 n _ _ from Pb.out), Lib.hid (fun h => by cases h), Lib.hid (KB.refl _ _ _ _), Bb⟩
        case round =>
          clear Pb
          obtain ⟨j, cur, hj, rfl, HP, HQ, HK, HB⟩ := hrel
          by_cases hlt : j < n
          · obtain ⟨K, ko, e0, hc0⟩ := (RowV.below RK.out HB.out) (by omega)
            obtain ⟨L, lo, e1, hc1⟩ := (RowV.below RL.out HB.out) (by omega)
            have ltK : K < V.heap.size := by obtain ⟨B, o, e, hc⟩ := RK.out (by omega); rw [e0] at e; cases e; exact World.block_lt_of_cell? _ _ (hc j hlt)
            have ltL : L < V.heap.size := by obtain ⟨B, o, e, hc⟩ := RL.out (by omega); rw [e1] at e; cases e; exact World.block_lt_of_cell? _ _ (hc j hlt)
            have c0 : wr.cell? ⟨K, ko + j, none⟩ = some (.int .u8 (z0.getD j 0)) := hc0 j hlt
            have c1 : wr.cell? ⟨L, lo + j, none⟩ = some (.int .i32 (z1.getD j 0)) := hc1 j hlt
            clear hc0 hc1
            subst e0 e1
            obtain ⟨sb, hs1, hs2, hs3, hs4⟩ := SCb.out j hlt
            have os : wr.cell? ⟨O, 2 * j, none⟩ = some (.pointer (some ⟨sb, 0, none⟩)) := kb_cell HK.out (by omega) (by omega) (by omega) (by rw [AOb.out.cell, (DS.out j hlt).1]; exact hs1)
            have ol : wr.cell? ⟨O, 2 * j + 1, none⟩ = some (.int .i32 (z1.getD j 0)) := kb_cell HK.out (by omega) (by omega) (by omega) (by rw [AOb.out.cell]; exact (DS.out j hlt).2)
            have ks : wr.cell? ⟨sb, 15, none⟩ = some (.int .u8 (z0.getD j 0)) := kb_cell HK.out (by omega) (by omega) (by omega) hs2
            obtain ⟨kd, hkd⟩ : ∃ kd, kd = z0.getD j 0 := ⟨_, rfl⟩
            obtain ⟨lc, hlc⟩ : ∃ lc, lc = z1.getD j 0 := ⟨_, rfl⟩
            rw [← hkd] at c0 ks
            rw [← hlc] at c1 ol
            clear hkd hlc
            obtain ⟨k, hkA, hkB⟩ : ∃ k, n ≤ j + k + 1 ∧ j + k + 1 ≤ n := ⟨n - j - 1, by omega, by omega⟩
            have HPJ := Lib.hid (show PP wr p O (2 * j) (k + 1) cur (.pointer none) from by have := HP.out; rwa [show n - j = k + 1 by omega] at this)
            have z9 : w3.heap.size ≤ wr.heap.size := HK.out.1
            have hk0 : (0 : Int) ≤ (j : Int) := Int.natCast_nonneg _
            have hk1 : (j : Int) < (n : Int) := by omega
            have hk2 : IntKind.i64.wrap ((j : Int) + 1) = (j : Int) + 1 := i64_in' _ (by omega) (by omega)
            have lK := World.block_lt_of_cell? _ _ c0
            have lL := World.block_lt_of_cell? _ _ c1
            have HC := Lib.hid (z9_0 V.heap.size w3.heap.size p O (2 * j) sb k cur lc kd wr.drew (by omega) (show w3.heap.size ≤ wr.heap.size from z9) (show PP wr.drew p O (2 * j) (k + 1) cur (.pointer none) from HPJ.out) os ol ks (by omega) (by omega) (by omega))
            clear os ol ks hs2
            go_wp2_with fail
            go_region_held3 (fun w' => w'.cell? ⟨K, ko + j, none⟩ = some (.int .u8 kd) ∧ w'.cell? ⟨L, lo + j, none⟩ = some (.int .i32 lc)) (repeat' (first | (refine And.intro ?_ ?_) | assumption | apply kAlloc | apply kDrew)) ((go_at_call 9; refine HC.out.mono ?_; rintro e w8 ⟨rfl, hp8, hk8, hb8⟩; have m0 : w8.cell? ⟨K, ko + j, none⟩ = some (.int .u8 kd) := (hb8.cell (p := ⟨K, ko + j, none⟩) ltK).trans c0; have m1 : w8.cell? ⟨L, lo + j, none⟩ = some (.int .i32 lc) := (hb8.cell (p := ⟨L, lo + j, none⟩) ltL).trans c1))
            all_goals
              have q1 : ((k : Int) != (n : Int) - 1 - (j : Int)) = false := by simp; omega
              have HP := Lib.hid hp8
              skip
              have HK := Lib.hid (show KB w3.heap.size p p w3 w8 from KB.trans HK.out ⟨hk8.1, hk8.2⟩)
              have HB := Lib.hid (show Below V.heap.size V w8 from HB.out.drew.trans hb8)
              have d0 : w8.cell? ⟨V.heap.size, j, none⟩ = some (.pointer (some ⟨sb, 0, none⟩)) := kb_cell HK.out (by omega) (by omega) (by omega) (by rw [ASb.out.cell]; exact hs1)
              clear hp8 hk8 hb8 m0 m1 HPJ HC
              go_wp2_with fail
              go_quiet ((go_at_call 10; exact Calls.quiet_of_same ((z10 p O (2 * j + 2) k (.pointer (some ⟨sb, 0, none⟩)) _ (some ⟨sb, 0, none⟩) (w8.drewN _) (show PP (w8.drewN _) p O (2 * j + 2) k (.pointer (some ⟨sb, 0, none⟩)) (.pointer none) from HP.out)).mono fun _ _ h => ⟨h.1, h.2.symm⟩)))
              obtain ⟨w9, hnew⟩ : ∃ W, W = w8.drewN nq := ⟨_, rfl⟩
              have HP' := Lib.hid (show PP w9 p O (2 * j + 2) k (.pointer (some ⟨sb, 0, none⟩)) (.pointer none) from by rw [hnew]; exact HP.out)
              have HK' := Lib.hid (show KB w3.heap.size p p w3 w9 from by rw [hnew]; exact HK.out)
              have HB' := Lib.hid (show Below V.heap.size V w9 from by rw [hnew]; exact below_drewN HB.out _)
              have d0' := (show w9.cell? ⟨V.heap.size, j, none⟩ = some (.pointer (some ⟨sb, 0, none⟩)) from by rw [hnew]; exact d0)
              rw [← hnew]
              clear hnew HP HK HB d0
              have HP := HP'
              have HK := HK'
              have HB := HB'
              have d0 := d0'
              clear HP' HK' HB' d0'
              go_wp2_with fail
              refine (z11 p O (2 * j + 2) k _ _ w9 (by omega) HP.out).mono ?_
              rintro e w' ⟨rfl, rfl⟩
              go_wp2_with fail
              by_cases hn1 : j + 1 < n
              · obtain ⟨sb2, hs21, hs22, hs23, hs24⟩ := SCb.out (j + 1) hn1
                have d1 : w9.cell? ⟨V.heap.size, j + 1, none⟩ = some (.pointer (some ⟨sb2, 0, none⟩)) := kb_cell HK.out (by omega) (by omega) (by omega) (by rw [ASb.out.cell]; exact hs21)
                have o2 : w9.cell? ⟨O, 2 * j + 2, none⟩ = some (.pointer (some ⟨sb2, 0, none⟩)) := kb_cell HK.out (by omega) (by omega) (by omega) (by rw [AOb.out.cell, show 2 * j + 2 = 2 * (j + 1) by omega, (DS.out (j + 1) hn1).1]; exact hs21)
                obtain ⟨k2, hk2e⟩ : ∃ k2, k = k2 + 1 := ⟨k - 1, by omega⟩
                subst hk2e
                have HZ12 := Lib.hid (fun W (hW : W.heap = w9.heap) => z12 p O (2 * j + 2) k2 _ _ _ W (by omega) (show PP W p O (2 * j + 2) (k2 + 1) (.pointer (some ⟨sb, 0, none⟩)) (.pointer none) from by obtain ⟨⟨a, h1, ha⟩, f1, h2, f2, h3, f3⟩ := HP.out; exact ⟨⟨a, (heapCell hW _).trans h1, ha⟩, (heapFz hW _).trans f1, (heapCell hW _).trans h2, (heapFz hW _).trans f2, (heapCell hW _).trans h3, (heapFz hW _).trans f3⟩) ((heapCell hW _).trans o2) (some ⟨sb2, 0, none⟩) rfl)
                have hg : ((j : Int) + 1 < (n : Int)) := by omega
                have hg2 : decide ((j : Int) + 1 < (n : Int)) = true := by simpa using hg
                go_quiet ((go_at_call 12; exact Calls.quiet_of_same ((HZ12.out (w9.drewN _) rfl).mono fun _ _ h => ⟨h.1, h.2.symm⟩)))
                obtain ⟨wa, hnew⟩ : ∃ W, W = w9.drewN nq := ⟨_, rfl⟩
                have HP' := Lib.hid (show PP wa p O (2 * j + 2) (k2 + 1) (.pointer (some ⟨sb, 0, none⟩)) (.pointer none) from by rw [hnew]; exact HP.out)
                have HK' := Lib.hid (show KB w3.heap.size p p w3 wa from by rw [hnew]; exact HK.out)
                have HB' := Lib.hid (show Below V.heap.size V wa from by rw [hnew]; exact below_drewN HB.out _)
                have d0' := (show wa.cell? ⟨V.heap.size, j, none⟩ = some (.pointer (some ⟨sb, 0, none⟩)) from by rw [hnew]; exact d0)
                rw [← hnew]
                clear hnew HP HK HB d0
                have HP := HP'
                have HK := HK'
                have HB := HB'
                have d0 := d0'
                clear HP' HK' HB' d0'
                clear d1 o2 HZ12
                go_wp2_with fail
                go_roundw
                case rel => exact ⟨j + 1, _, by omega, by go_num, Lib.hid (by have := HP.out; rwa [show 2 * j + 2 = 2 * (j + 1) by omega, show k2 + 1 = n - (j + 1) by omega] at this), Lib.hid (fun h => by cases h), HK, HB⟩
                case measure => simp [intOf]; omega
              · have hg : ¬ ((j : Int) + 1 < (n : Int)) := by omega
                have hg2 : decide ((j : Int) + 1 < (n : Int)) = false := by simpa using hg
                go_quiet (fail)
                obtain ⟨wa, hnew⟩ : ∃ W, W = w9.drewN nq := ⟨_, rfl⟩
                have HP' := Lib.hid (show PP wa p O (2 * j + 2) k (.pointer (some ⟨sb, 0, none⟩)) (.pointer none) from by rw [hnew]; exact HP.out)
                have HK' := Lib.hid (show KB w3.heap.size p p w3 wa from by rw [hnew]; exact HK.out)
                have HB' := Lib.hid (show Below V.heap.size V wa from by rw [hnew]; exact below_drewN HB.out _)
                have d0' := (show wa.cell? ⟨V.heap.size, j, none⟩ = some (.pointer (some ⟨sb, 0, none⟩)) from by rw [hnew]; exact d0)
                rw [← hnew]
                clear hnew HP HK HB d0
                have HP := HP'
                have HK := HK'
                have HB := HB'
                have d0 := d0'
                clear HP' HK' HB' d0'
                go_wp2_with fail
                go_roundw
                case rel => exact ⟨j + 1, _, by omega, by go_num, Lib.hid (by have := HP.out; rwa [show 2 * j + 2 = 2 * (j + 1) by omega, show k = n - (j + 1) by omega] at this), Lib.hid (fun h => by cases h), HK, HB⟩
                case measure => simp [intOf]; omega
          · have e : j = n := by omega
            subst e
            have e9 : decide (j < j) = false := by simp
            have mg : wr.cell? ⟨M, 5, none⟩ = some (.slice none 0 0) := kb_cell HK.out (by omega) (by omega) (by omega) Mb.out
            go_wp2_with fail
            go_ret
            exact ⟨rfl, bel2 BV.out HB.out⟩
      · go_wp2_with fail
        obtain ⟨Q, hQ⟩ : ∃ Q, Q = w3.heap.size := ⟨_, rfl⟩
        obtain ⟨w4, hw4⟩ : ∃ W, W = w3.alloc (.cells #[.slice none 0 0, .slice none 0 0, .slice none 0 0, .slice none 0 0, .map none, .map none, .map none, .slice none 0 0, .bool false, .bool false, .bool false] 54) := ⟨_, rfl⟩
        rw [← hw4, ← hQ]
        have AQ4 := Lib.hid (show At w4 Q 54 #[.slice none 0 0, .slice none 0 0, .slice none 0 0, .slice none 0 0, .map none, .map none, .map none, .slice none 0 0, .bool false, .bool false, .bool false] from by rw [hw4, hQ]; exact heap_alloc_new w3 _)
        have b34 : Below w3.heap.size w3 w4 := by rw [hw4]; exact (Below.refl _ _).alloc (Nat.le_refl _) _
        have z4 : w4.heap.size = w3.heap.size + 1 := by rw [hw4]; simp
        have H8 := Lib.hid (z8 V.heap.size p O 0 n _ (some ⟨Q, 0, none⟩) w4 (by omega) (PP.below P3.out b34))
        clear hw4
        refine H8.out.mono ?_
        rintro e w5 ⟨rfl, hp5, hk5, hb5⟩
        have Pb := Lib.hid hp5
        have ASb := Lib.hid (show At w5 V.heap.size 26 cs from (hk5.2 _ (by omega) (by omega) (by omega)).trans (At.below AS3.out b34 (by omega)))
        have AOb := Lib.hid (show At w5 O 188 ds from (hk5.2 _ (by omega) (by omega) (by omega)).trans (At.below AO3.out b34 (by omega)))
        have SCb := Lib.hid (show SC w5 V.heap.size p cs z0 n from fun t ht => by obtain ⟨b, h1, h2, h3, h4⟩ := SC3.out t ht; exact ⟨b, h1, kb_cell hk5 (by omega) (by omega) (by omega) (kept b34 h2), h3, h4⟩)
        have Mb := Lib.hid (show w5.cell? ⟨M, 5, none⟩ = some (.slice none 0 0) from kb_cell hk5 (by omega) (by omega) (by omega) (kept b34 M3.out))
        have Bb := Lib.hid (show Below V.heap.size V w5 from (B3.out.trans (b34.mono (by omega))).trans hb5)
        have z5 : w4.heap.size ≤ w5.heap.size := hk5.1
        have AQ5 : At w5 Q 54 #[.slice none 0 0, .slice none 0 0, .slice none 0 0, .slice none 0 0, .map none, .map none, .map none, .slice none 0 0, .bool false, .bool false, .bool false] := (hk5.2 _ (by omega) (by omega) (by omega)).trans AQ4.out
        have QSb := Lib.hid (show QS w5 w5.heap.size Q 0 [] from ⟨none, 0, by rw [AQ5.cell]; rfl, AQ5.frozen _, World.ownsRow_nil _ _ _ _⟩)
        have zQ : O < Q := by omega
        have zQp : Q ≠ p := by omega
        have zQb : Q < w5.heap.size := by omega
        clear hp5 hk5 hb5 b34 H8 AQ5 AQ4 AO3 AS3 SC3 M3 B3 P3 hQ
        go_wp2_with fail
        have zb : O < w5.heap.size := by omega
        go_loopw [14] (fun i wr => L2 V w5 w5.heap.size p Q O n (.pointer (some ⟨Q, 0, none⟩)) true cs i wr) (fun i _ => n - (intOf i).toNat)
        case atStart => exact ⟨0, _, by omega, rfl, Lib.hid (show PP w5 p O 0 n _ _ from Pb.out), Lib.hid (fun _ => QSb.out), Lib.hid (KB.refl _ _ _ _), Bb⟩
        case round =>
          clear Pb QSb
          obtain ⟨j, cur, hj, rfl, HP, HQ, HK, HB⟩ := hrel
          by_cases hlt : j < n
          · obtain ⟨K, ko, e0, hc0⟩ := (RowV.below RK.out HB.out) (by omega)
            obtain ⟨L, lo, e1, hc1⟩ := (RowV.below RL.out HB.out) (by omega)
            have ltK : K < V.heap.size := by obtain ⟨B, o, e, hc⟩ := RK.out (by omega); rw [e0] at e; cases e; exact World.block_lt_of_cell? _ _ (hc j hlt)
            have ltL : L < V.heap.size := by obtain ⟨B, o, e, hc⟩ := RL.out (by omega); rw [e1] at e; cases e; exact World.block_lt_of_cell? _ _ (hc j hlt)
            have c0 : wr.cell? ⟨K, ko + j, none⟩ = some (.int .u8 (z0.getD j 0)) := hc0 j hlt
            have c1 : wr.cell? ⟨L, lo + j, none⟩ = some (.int .i32 (z1.getD j 0)) := hc1 j hlt
            clear hc0 hc1
            subst e0 e1
            obtain ⟨sb, hs1, hs2, hs3, hs4⟩ := SCb.out j hlt
            have os : wr.cell? ⟨O, 2 * j, none⟩ = some (.pointer (some ⟨sb, 0, none⟩)) := kb_cell HK.out (by omega) (by omega) (by omega) (by rw [AOb.out.cell, (DS.out j hlt).1]; exact hs1)
            have ol : wr.cell? ⟨O, 2 * j + 1, none⟩ = some (.int .i32 (z1.getD j 0)) := kb_cell HK.out (by omega) (by omega) (by omega) (by rw [AOb.out.cell]; exact (DS.out j hlt).2)
            have ks : wr.cell? ⟨sb, 15, none⟩ = some (.int .u8 (z0.getD j 0)) := kb_cell HK.out (by omega) (by omega) (by omega) hs2
            obtain ⟨kd, hkd⟩ : ∃ kd, kd = z0.getD j 0 := ⟨_, rfl⟩
            obtain ⟨lc, hlc⟩ : ∃ lc, lc = z1.getD j 0 := ⟨_, rfl⟩
            rw [← hkd] at c0 ks
            rw [← hlc] at c1 ol
            clear hkd hlc
            obtain ⟨k, hkA, hkB⟩ : ∃ k, n ≤ j + k + 1 ∧ j + k + 1 ≤ n := ⟨n - j - 1, by omega, by omega⟩
            have HPJ := Lib.hid (show PP wr p O (2 * j) (k + 1) cur (.pointer (some ⟨Q, 0, none⟩)) from by have := HP.out; rwa [show n - j = k + 1 by omega] at this)
            have z9 : w5.heap.size ≤ wr.heap.size := HK.out.1
            have hk0 : (0 : Int) ≤ (j : Int) := Int.natCast_nonneg _
            have hk1 : (j : Int) < (n : Int) := by omega
            have hk2 : IntKind.i64.wrap ((j : Int) + 1) = (j : Int) + 1 := i64_in' _ (by omega) (by omega)
            have lK := World.block_lt_of_cell? _ _ c0
            have lL := World.block_lt_of_cell? _ _ c1
            have HC := Lib.hid (z9_1 V.heap.size w5.heap.size p Q O (2 * j) sb k j _ cur lc kd wr.drew (by omega) (by omega) (by omega) (by omega) (show w5.heap.size ≤ wr.heap.size from z9) (show PP wr.drew p O (2 * j) (k + 1) cur (.pointer (some ⟨Q, 0, none⟩)) from HPJ.out) (show QS wr.drew _ _ _ _ from HQ.out rfl) os ol ks (by omega) (by omega) (by omega) (by omega) (by omega))
            clear os ol ks hs2
            go_wp2_with fail
            go_region_held3 (fun w' => w'.cell? ⟨K, ko + j, none⟩ = some (.int .u8 kd) ∧ w'.cell? ⟨L, lo + j, none⟩ = some (.int .i32 lc)) (repeat' (first | (refine And.intro ?_ ?_) | assumption | apply kAlloc | apply kDrew)) ((go_at_call 9; refine HC.out.mono ?_; rintro e w8 ⟨rfl, hp8, hq8, hk8, hb8⟩; have m0 : w8.cell? ⟨K, ko + j, none⟩ = some (.int .u8 kd) := (hb8.cell (p := ⟨K, ko + j, none⟩) ltK).trans c0; have m1 : w8.cell? ⟨L, lo + j, none⟩ = some (.int .i32 lc) := (hb8.cell (p := ⟨L, lo + j, none⟩) ltL).trans c1))
            all_goals
              have q1 : ((k : Int) != (n : Int) - 1 - (j : Int)) = false := by simp; omega
              have HP := Lib.hid hp8
              have HQ8 := Lib.hid (show QS w8 w5.heap.size Q (j + 1) (cs.toList.take (j + 1)) from by rw [← takeNext cs j _ hs1]; exact hq8)
              have HK := Lib.hid (show KB w5.heap.size p Q w5 w8 from KB.trans HK.out ⟨hk8.1, hk8.2⟩)
              have HB := Lib.hid (show Below V.heap.size V w8 from HB.out.drew.trans hb8)
              have d0 : w8.cell? ⟨V.heap.size, j, none⟩ = some (.pointer (some ⟨sb, 0, none⟩)) := kb_cell HK.out (by omega) (by omega) (by omega) (by rw [ASb.out.cell]; exact hs1)
              clear hp8 hk8 hb8 m0 m1 HPJ HC hq8 HQ
              go_wp2_with fail
              go_quiet ((go_at_call 10; exact Calls.quiet_of_same ((z10 p O (2 * j + 2) k (.pointer (some ⟨sb, 0, none⟩)) _ (some ⟨sb, 0, none⟩) (w8.drewN _) (show PP (w8.drewN _) p O (2 * j + 2) k (.pointer (some ⟨sb, 0, none⟩)) (.pointer (some ⟨Q, 0, none⟩)) from HP.out)).mono fun _ _ h => ⟨h.1, h.2.symm⟩)))
              obtain ⟨w9, hnew⟩ : ∃ W, W = w8.drewN nq := ⟨_, rfl⟩
              have HP' := Lib.hid (show PP w9 p O (2 * j + 2) k (.pointer (some ⟨sb, 0, none⟩)) (.pointer (some ⟨Q, 0, none⟩)) from by rw [hnew]; exact HP.out)
              have HQ8' := Lib.hid (show QS w9 w5.heap.size Q (j + 1) (cs.toList.take (j + 1)) from by rw [hnew]; exact HQ8.out)
              have HK' := Lib.hid (show KB w5.heap.size p Q w5 w9 from by rw [hnew]; exact HK.out)
              have HB' := Lib.hid (show Below V.heap.size V w9 from by rw [hnew]; exact below_drewN HB.out _)
              have d0' := (show w9.cell? ⟨V.heap.size, j, none⟩ = some (.pointer (some ⟨sb, 0, none⟩)) from by rw [hnew]; exact d0)
              rw [← hnew]
              clear hnew HP HQ8 HK HB d0
              have HP := HP'
              have HQ8 := HQ8'
              have HK := HK'
              have HB := HB'
              have d0 := d0'
              clear HP' HQ8' HK' HB' d0'
              go_wp2_with fail
              refine (z11 p O (2 * j + 2) k _ _ w9 (by omega) HP.out).mono ?_
              rintro e w' ⟨rfl, rfl⟩
              go_wp2_with fail
              by_cases hn1 : j + 1 < n
              · obtain ⟨sb2, hs21, hs22, hs23, hs24⟩ := SCb.out (j + 1) hn1
                have d1 : w9.cell? ⟨V.heap.size, j + 1, none⟩ = some (.pointer (some ⟨sb2, 0, none⟩)) := kb_cell HK.out (by omega) (by omega) (by omega) (by rw [ASb.out.cell]; exact hs21)
                have o2 : w9.cell? ⟨O, 2 * j + 2, none⟩ = some (.pointer (some ⟨sb2, 0, none⟩)) := kb_cell HK.out (by omega) (by omega) (by omega) (by rw [AOb.out.cell, show 2 * j + 2 = 2 * (j + 1) by omega, (DS.out (j + 1) hn1).1]; exact hs21)
                obtain ⟨k2, hk2e⟩ : ∃ k2, k = k2 + 1 := ⟨k - 1, by omega⟩
                subst hk2e
                have HZ12 := Lib.hid (fun W (hW : W.heap = w9.heap) => z12 p O (2 * j + 2) k2 _ _ _ W (by omega) (show PP W p O (2 * j + 2) (k2 + 1) (.pointer (some ⟨sb, 0, none⟩)) (.pointer (some ⟨Q, 0, none⟩)) from by obtain ⟨⟨a, h1, ha⟩, f1, h2, f2, h3, f3⟩ := HP.out; exact ⟨⟨a, (heapCell hW _).trans h1, ha⟩, (heapFz hW _).trans f1, (heapCell hW _).trans h2, (heapFz hW _).trans f2, (heapCell hW _).trans h3, (heapFz hW _).trans f3⟩) ((heapCell hW _).trans o2) (some ⟨sb2, 0, none⟩) rfl)
                have hg : ((j : Int) + 1 < (n : Int)) := by omega
                have hg2 : decide ((j : Int) + 1 < (n : Int)) = true := by simpa using hg
                go_quiet ((go_at_call 12; exact Calls.quiet_of_same ((HZ12.out (w9.drewN _) rfl).mono fun _ _ h => ⟨h.1, h.2.symm⟩)))
                obtain ⟨wa, hnew⟩ : ∃ W, W = w9.drewN nq := ⟨_, rfl⟩
                have HP' := Lib.hid (show PP wa p O (2 * j + 2) (k2 + 1) (.pointer (some ⟨sb, 0, none⟩)) (.pointer (some ⟨Q, 0, none⟩)) from by rw [hnew]; exact HP.out)
                have HQ8' := Lib.hid (show QS wa w5.heap.size Q (j + 1) (cs.toList.take (j + 1)) from by rw [hnew]; exact HQ8.out)
                have HK' := Lib.hid (show KB w5.heap.size p Q w5 wa from by rw [hnew]; exact HK.out)
                have HB' := Lib.hid (show Below V.heap.size V wa from by rw [hnew]; exact below_drewN HB.out _)
                have d0' := (show wa.cell? ⟨V.heap.size, j, none⟩ = some (.pointer (some ⟨sb, 0, none⟩)) from by rw [hnew]; exact d0)
                rw [← hnew]
                clear hnew HP HQ8 HK HB d0
                have HP := HP'
                have HQ8 := HQ8'
                have HK := HK'
                have HB := HB'
                have d0 := d0'
                clear HP' HQ8' HK' HB' d0'
                clear d1 o2 HZ12
                go_wp2_with fail
                obtain ⟨g, gc, hg1, hgc⟩ := QS.form HQ8.out (by omega)
                have g0 : wa.cell? ⟨g, j, none⟩ = some (.pointer (some ⟨sb, 0, none⟩)) := by rw [hgc j (by omega), List.getElem?_take_of_lt (by omega)]; simpa using hs1
                clear hgc
                go_quiet (fail)
                obtain ⟨wb, hnew⟩ : ∃ W, W = wa.drewN nq := ⟨_, rfl⟩
                have HP' := Lib.hid (show PP wb p O (2 * j + 2) (k2 + 1) (.pointer (some ⟨sb, 0, none⟩)) (.pointer (some ⟨Q, 0, none⟩)) from by rw [hnew]; exact HP.out)
                have HQ8' := Lib.hid (show QS wb w5.heap.size Q (j + 1) (cs.toList.take (j + 1)) from by rw [hnew]; exact HQ8.out)
                have HK' := Lib.hid (show KB w5.heap.size p Q w5 wb from by rw [hnew]; exact HK.out)
                have HB' := Lib.hid (show Below V.heap.size V wb from by rw [hnew]; exact below_drewN HB.out _)
                have d0' := (show wb.cell? ⟨V.heap.size, j, none⟩ = some (.pointer (some ⟨sb, 0, none⟩)) from by rw [hnew]; exact d0)
                rw [← hnew]
                clear hnew HP HQ8 HK HB d0
                have HP := HP'
                have HQ8 := HQ8'
                have HK := HK'
                have HB := HB'
                have d0 := d0'
                clear HP' HQ8' HK' HB' d0'
                clear hg1 g0
                go_wp2_with fail
                go_roundw
                case rel => exact ⟨j + 1, _, by omega, by go_num, Lib.hid (by have := HP.out; rwa [show 2 * j + 2 = 2 * (j + 1) by omega, show k2 + 1 = n - (j + 1) by omega] at this), Lib.hid (fun _ => HQ8.out), HK, HB⟩
                case measure => simp [intOf]; omega
              · have hg : ¬ ((j : Int) + 1 < (n : Int)) := by omega
                have hg2 : decide ((j : Int) + 1 < (n : Int)) = false := by simpa using hg
                go_quiet (fail)
                obtain ⟨wa, hnew⟩ : ∃ W, W = w9.drewN nq := ⟨_, rfl⟩
                have HP' := Lib.hid (show PP wa p O (2 * j + 2) k (.pointer (some ⟨sb, 0, none⟩)) (.pointer (some ⟨Q, 0, none⟩)) from by rw [hnew]; exact HP.out)
                have HQ8' := Lib.hid (show QS wa w5.heap.size Q (j + 1) (cs.toList.take (j + 1)) from by rw [hnew]; exact HQ8.out)
                have HK' := Lib.hid (show KB w5.heap.size p Q w5 wa from by rw [hnew]; exact HK.out)
                have HB' := Lib.hid (show Below V.heap.size V wa from by rw [hnew]; exact below_drewN HB.out _)
                have d0' := (show wa.cell? ⟨V.heap.size, j, none⟩ = some (.pointer (some ⟨sb, 0, none⟩)) from by rw [hnew]; exact d0)
                rw [← hnew]
                clear hnew HP HQ8 HK HB d0
                have HP := HP'
                have HQ8 := HQ8'
                have HK := HK'
                have HB := HB'
                have d0 := d0'
                clear HP' HQ8' HK' HB' d0'
                go_wp2_with fail
                obtain ⟨g, gc, hg1, hgc⟩ := QS.form HQ8.out (by omega)
                have g0 : wa.cell? ⟨g, j, none⟩ = some (.pointer (some ⟨sb, 0, none⟩)) := by rw [hgc j (by omega), List.getElem?_take_of_lt (by omega)]; simpa using hs1
                clear hgc
                go_quiet (fail)
                obtain ⟨wb, hnew⟩ : ∃ W, W = wa.drewN nq := ⟨_, rfl⟩
                have HP' := Lib.hid (show PP wb p O (2 * j + 2) k (.pointer (some ⟨sb, 0, none⟩)) (.pointer (some ⟨Q, 0, none⟩)) from by rw [hnew]; exact HP.out)
                have HQ8' := Lib.hid (show QS wb w5.heap.size Q (j + 1) (cs.toList.take (j + 1)) from by rw [hnew]; exact HQ8.out)
                have HK' := Lib.hid (show KB w5.heap.size p Q w5 wb from by rw [hnew]; exact HK.out)
                have HB' := Lib.hid (show Below V.heap.size V wb from by rw [hnew]; exact below_drewN HB.out _)
                have d0' := (show wb.cell? ⟨V.heap.size, j, none⟩ = some (.pointer (some ⟨sb, 0, none⟩)) from by rw [hnew]; exact d0)
                rw [← hnew]
                clear hnew HP HQ8 HK HB d0
                have HP := HP'
                have HQ8 := HQ8'
                have HK := HK'
                have HB := HB'
                have d0 := d0'
                clear HP' HQ8' HK' HB' d0'
                clear hg1 g0
                go_wp2_with fail
                go_roundw
                case rel => exact ⟨j + 1, _, by omega, by go_num, Lib.hid (by have := HP.out; rwa [show 2 * j + 2 = 2 * (j + 1) by omega, show k = n - (j + 1) by omega] at this), Lib.hid (fun _ => HQ8.out), HK, HB⟩
                case measure => simp [intOf]; omega
          · have e : j = n := by omega
            subst e
            have e9 : decide (j < j) = false := by simp
            have QF := HQ
            go_wp2_with fail
            clear e9
            go_loopw [15] (fun i wq => L3 V wr j i wq) (fun i _ => j - (intOf i).toNat)
            case atStart => exact ⟨0, by omega, rfl, Lib.hid rfl, HB⟩
            case round =>
              obtain ⟨t, ht, rfl, HH, HBt⟩ := hrel
              rename World => wq
              by_cases hlt3 : t < j
              · obtain ⟨g, gc, hg1, hgc⟩ := QS.form (HQ.out (by first | rfl | trivial)) (by omega)
                obtain ⟨sb, hs1, hs2, hs3, hs4⟩ := SCb.out t hlt3
                have g1 := (heapCell HH.out _).trans hg1
                have g0 : wq.cell? ⟨g, t, none⟩ = some (.pointer (some ⟨sb, 0, none⟩)) := by rw [heapCell HH.out, hgc t (by omega), List.getElem?_take_of_lt (by omega)]; simpa using hs1
                have d0 : wq.cell? ⟨V.heap.size, t, none⟩ = some (.pointer (some ⟨sb, 0, none⟩)) := by rw [heapCell HH.out]; exact kb_cell HK.out (by omega) (by omega) (by omega) (by rw [ASb.out.cell]; exact hs1)
                have hk0 : (0 : Int) ≤ (t : Int) := Int.natCast_nonneg _
                have hk1 : (t : Int) < (j : Int) := by omega
                clear hgc hg1 hs2
                go_wp2_with fail
                go_quiet (fail)
                have HH' := Lib.hid (show (wq.drewN nq).heap = wr.heap from HH.out)
                have HB' := Lib.hid (below_drewN HBt.out nq)
                go_wp2_with fail
                go_roundw
                case rel => exact ⟨t + 1, by omega, by go_num, HH', HB'⟩
                case measure => simp [intOf]; omega
              · have e : t = j := by omega
                subst e
                have e9 : decide (t < t) = false := by simp
                have mg : wq.cell? ⟨M, 5, none⟩ = some (.slice none 0 0) := by rw [heapCell HH.out]; exact kb_cell HK.out (by omega) (by omega) (by omega) Mb.out
                go_wp2_with fail
                go_ret
                exact ⟨rfl, bel2 BV.out HBt.out⟩
end Go.Proofs.YthgcchgpplblbaaFmt.fnPushScopeForVisitPassReplaysFirstPass
