/- Proved here: the contract of zzDecodeStmtList, over that of zzDecodeStmt. Conditions as stated. -/
import Derived.Test.YtppcfibhpgjnoaaFIB
import Derived.Test.YtppcfibhpgjnoaaSKB
import Derived.WalkKit
import Derived.WalkSpells
import Derived.WalkLawsBesides
import Derived.Lib.Hide
import Derived.Lib.SliceRun
import Derived.Deep.RegionWith
import Derived.OwnWalk
import Derived.Laws.OwnMore
import Derived.Deep.AppendLies
namespace Go.Proofs.Ytppcfibhpgjnoaa
open Go.RowKit
set_option linter.unusedSimpArgs false
set_option linter.unusedVariables false

theorem infoST : (Try.prog.info? 33).map (fun i => (i.zero, i.size, i.bytes)) = some (some (.agg #[.nilIface, .int .i32 0]), 2, 24) := by kernel_rfl
theorem atNew {w : World} {n : Nat} (h : w.heap.size = n) (t : TypeId) (cs : Array Value) : At (w.alloc (.cells cs t)) n t cs := by subst h; exact At.new w t cs
theorem anyB_succ (t : Nat → Bool) (n : Nat) : anyB t (n + 1) = (anyB t n || t n) := by simp [anyB, List.range_succ]
theorem anyB_congr {f g : Nat → Bool} {n : Nat} (h : ∀ q, q < n → f q = g q) : anyB f n = anyB g n := by
  induction n with
  | zero => rfl
  | succ n ih => rw [anyB_succ, anyB_succ, ih (fun q hq => h q (by omega)), h n (by omega)]
theorem anyB_snoc (ks : Nat → Bool) (k : Bool) (j : Nat) : anyB (fun q => if q = j then k else ks q) (j + 1) = (anyB ks j || k) := by
  rw [anyB_succ, anyB_congr (g := ks) (fun q hq => by simp; omega)]
  simp
def DSP (base n p : Nat) (W : World) (e : Ending) (w' : World) : Prop :=
  ∃ (d : Value) (l : Int) (p' kk : Nat) (S : Nat → Prop), e = .returned (.tuple #[.agg #[d, .int .i32 l], .int .i64 p', .int .i64 kk]) ∧ IsD d ∧ SK base S w' d l (decide (0 < kk)) ∧ (∀ q, S q → W.heap.size ≤ q) ∧ p ≤ p' ∧ p' ≤ n ∧ (p < n → p < p') ∧ kk ≤ p' - p ∧ Below W.heap.size W w'
def LSP (base n p : Nat) (W : World) (e : Ending) (w' : World) : Prop :=
  ∃ (a : Option Addr) (j c p' kk : Nat) (S : Nat → Prop), e = .returned (.tuple #[.slice a j c, .int .i64 p', .int .i64 kk]) ∧ KL base S w' (.slice a j c) (decide (0 < kk)) ∧ (∀ q, S q → W.heap.size ≤ q) ∧ p ≤ p' ∧ p' ≤ n ∧ kk ≤ p' - p ∧ Below W.heap.size W w'
def LR (base n p N : Nat) (W : World) (a : Option Addr) (zs : List Int) (p1 s kp i : Value) (wr : World) : Prop :=
  ∃ (j p' g c kk : Nat) (xs : List Value) (ks : Nat → Bool) (S : Nat → Prop), j ≤ N ∧ i = .int .i64 j ∧ p1 = .int .i64 p' ∧ p' ≤ n ∧ p ≤ p' ∧ s = .slice (some ⟨g, 0, none⟩) j c ∧ kp = .int .i64 kk ∧ kk ≤ p' - p ∧ Hid (anyB ks j = decide (0 < kk)) ∧ Hid (wr.ownsRow W.heap.size 33 2 (.slice (some ⟨g, 0, none⟩) j c) j xs) ∧ Hid (ItS base S wr xs j ks) ∧ Hid (∀ k, S k → W.heap.size ≤ k ∧ k < wr.heap.size) ∧ Hid (¬ S g) ∧ Hid (Below W.heap.size W wr) ∧ Hid (Ops base wr a n zs)
theorem stepL {base n p p2 N j p' g c g' c' kk k2 : Nat} {w wr w2 w3 : World} {a : Option Addr} {zs : List Int} {xs : List Value} {ks : Nat → Bool} {S S2 : Nat → Prop} {ty bq : Nat} {l : Int}
    (hB : base ≤ w.heap.size) (hO : Ops base w a n zs) (hj : j < N) (hp : p ≤ p') (hp3 : p' < p2) (hp4 : p2 ≤ n) (hkk : kk ≤ p' - p) (HA : anyB ks j = decide (0 < kk))
    (HW : wr.ownsRow w.heap.size 33 2 (.slice (some ⟨g, 0, none⟩) j c) j xs) (HT : ItS base S wr xs j ks) (HS : ∀ k, S k → w.heap.size ≤ k ∧ k < wr.heap.size) (HG : ¬ S g) (HB : Below w.heap.size w wr)
    (hfi : SK base S2 w2 (.iface ty (.pointer (some ⟨bq, 0, none⟩))) l (decide (0 < k2))) (hS2 : ∀ k, S2 k → wr.heap.size + 1 ≤ k) (hk2 : k2 ≤ p2 - p')
    (hg2 : Below (wr.heap.size + 1) (wr.alloc (.cells #[.nilIface, .int .i32 0] 33)) w2)
    (u0 u1 : Value) (o : Obj) (ho3 : w3.ownsRow w.heap.size 33 2 (.slice (some ⟨g', 0, none⟩) (j + 1) c') (j + 1) (xs ++ [.iface ty (.pointer (some ⟨bq, 0, none⟩)), .int .i32 l])) (hg3 : (((w2.setCell ⟨wr.heap.size, 0, none⟩ u0).setCell ⟨wr.heap.size, 1, none⟩ u1).alloc o).grownBy w3 (some g)) (hlie : some g = some g' ∨ g' = w2.heap.size + 1) :
    LR base n p N w a zs (.int .i64 p2) (.slice (some ⟨g', 0, none⟩) (j + 1) c') (.int .i64 ((kk + k2 : Nat) : Int)) (.int .i64 ((j + 1 : Nat) : Int)) w3 := by
  have zg := World.ownsRow.lt HW g rfl
  have z1 := HB.size
  have z2 : wr.heap.size + 1 ≤ w2.heap.size := by have := hg2.size; simpa using this
  have z3 : w2.heap.size + 1 ≤ w3.heap.size := by have := hg3.size; simpa [World.setCell] using this
  have K2 : ∀ k, k < wr.heap.size → w2.heap[k]? = wr.heap[k]? := fun k hk => (hg2.block k (by omega)).trans (Below.heap_alloc wr _ k hk)
  have K3 : ∀ k, k < w2.heap.size → k ≠ wr.heap.size → k ≠ g → w3.heap[k]? = w2.heap[k]? := fun k hk hn hg => by
    rw [hg3.block k (by simp [World.setCell]; omega) (by simpa using hg), Below.heap_alloc _ _ k (by simpa [World.setCell] using hk), Below.heap_setCell _ _ _ k (by simpa using hn), Below.heap_setCell _ _ _ k (by simpa using hn)]
  have S2lt := fun k hk => (hfi.1 k hk).2
  have HBW : Below w.heap.size w w3 := by
    refine ⟨?_, ?_, ?_, by omega, fun k hk => (K3 k (by omega) (by omega) (by omega)).trans ((K2 k (by omega)).trans (HB.block k hk))⟩
    · rw [hg3.os]; exact hg2.os.trans HB.os
    · rw [hg3.tape]; exact hg2.tape.trans HB.tape
    · rw [hg3.output]; exact hg2.output.trans HB.output
  refine ⟨j + 1, p2, g', c', kk + k2, xs ++ [.iface ty (.pointer (some ⟨bq, 0, none⟩)), .int .i32 l], fun q => if q = j then decide (0 < k2) else ks q, fun k => S k ∨ S2 k, by omega, rfl, rfl, hp4, by omega, rfl, rfl, by omega, Lib.hid ?_, Lib.hid ho3, Lib.hid ?_, Lib.hid ?_, Lib.hid ?_, Lib.hid HBW, Lib.hid (hO.keep (HBW.mono hB))⟩
  · rw [anyB_snoc, HA]
    by_cases h1 : 0 < kk <;> by_cases h2 : 0 < k2 <;> simp [h1, h2] <;> omega
  · have bnd : ∀ k, (S k ∨ S2 k) → base ≤ k ∧ k < w3.heap.size := fun k hk => by
      rcases hk with hk | hk
      · have := HS k hk; omega
      · have := hfi.1 k hk; omega
    refine ItS.snoc ((HT.keep (by omega) (fun k hk => ?_)).more (fun _ h => .inl h) bnd) _ _ _ ⟨_, _, rfl⟩ ((hfi.keep (by omega) (fun k hk => ?_)).more (fun _ h => .inr h) bnd)
    · have h := HS k hk
      exact (K3 k (by omega) (by omega) (fun e => HG (e ▸ hk))).trans (K2 k h.2)
    · have h := S2lt k hk
      have h' := hS2 k hk
      exact K3 k h (by omega) (by omega)
  · intro k hk
    rcases hk with hk | hk
    · have := HS k hk; omega
    · have := S2lt k hk; have := hS2 k hk; omega
  · intro hk
    rcases hlie with h | h
    · simp only [Option.some.injEq] at h
      subst h
      rcases hk with hk | hk
      · exact HG hk
      · have := hS2 _ hk; omega
    · subst h
      rcases hk with hk | hk
      · have := (HS _ hk).2; omega
      · have := S2lt _ hk; omega

theorem endL {base n p p' j g c kk : Nat} {w wr : World} {xs : List Value} {ks : Nat → Bool} {S : Nat → Prop} (hB : base ≤ w.heap.size) (hp1 : p' ≤ n) (hp2 : p ≤ p') (hkk : kk ≤ p' - p) (hj : j ≤ 1048576) (HA : anyB ks j = decide (0 < kk))
    (HW : wr.ownsRow w.heap.size 33 2 (.slice (some ⟨g, 0, none⟩) j c) j xs) (HT : ItS base S wr xs j ks) (HS : ∀ k, S k → w.heap.size ≤ k ∧ k < wr.heap.size) (HG : ¬ S g) (HB : Below w.heap.size w wr) :
    LSP base n p w (.returned (.tuple #[.slice (some ⟨g, 0, none⟩) j c, .int .i64 p', .int .i64 kk])) wr := by
  have zg := World.ownsRow.lt HW g rfl
  have bnd : ∀ k, (S k ∨ k = g) → base ≤ k ∧ k < wr.heap.size := fun k hk => by
    rcases hk with hk | rfl
    · have := HS k hk; omega
    · omega
  refine ⟨_, j, c, p', kk, fun k => S k ∨ k = g, rfl, ?_, ?_, hp2, hp1, hkk, HB⟩
  · rw [← HA]
    exact klOf (.inr rfl) HW (HT.more (fun _ h => .inl h) bnd) bnd hj
  · intro q hq
    rcases hq with hq | rfl
    · exact (HS q hq).1
    · exact zg.1

set_option maxRecDepth 100000 in
set_option maxHeartbeats 8000000 in
theorem lst (base n cap : Nat) (a : Option Addr) (zs : List Int) (hn : n ≤ 4096) (m : Nat) (ih : ∀ (p : Nat) (w : World), n - p ≤ m → p ≤ n → Ops base w a n zs → base ≤ w.heap.size → Calls Try.prog 13 #[.slice a n cap, .int .i64 p] w (DSP base n p w)) (N : Nat) (hN : N ≤ 255) :
    ∀ (p : Nat) (w : World), n - p ≤ m → p ≤ n → Ops base w a n zs → base ≤ w.heap.size → Calls Try.prog 43 #[.slice a n cap, .int .i64 p, .int .i64 N] w (LSP base n p w) := by
  intro p w hm hp hO hB
  obtain ⟨i0, hi0, hz0, hz1, hz2⟩ := info_parts infoST
  have HO := Lib.hid hO
  have I0 := Lib.hid hi0
  have I1 := Lib.hid hz0
  have I2 := Lib.hid hz1
  have I3 := Lib.hid hz2
  clear hO hi0 hz0 hz1 hz2
  go_enter Try.func43, Try.ntmps43
  go_wp2_with fail
  go_loopw [1, 9, 10, 11] (fun p1 s kp i wr => LR base n p N w a zs p1 s kp i wr) (fun _ _ _ i _ => N - (intOf i).toNat)
  case atStart =>
    refine ⟨0, p, w.heap.size, 0, 0, [], fun _ => false, fun _ => False, Nat.zero_le _, rfl, rfl, hp, Nat.le_refl _, rfl, rfl, by omega, Lib.hid (by simp [anyB]), Lib.hid ⟨rfl, .inr ⟨w.heap.size, 0, #[], rfl, Nat.le_refl _, heap_alloc_new w _, Nat.le_refl _, by simp [maxLen], rfl, rfl⟩⟩, Lib.hid ⟨rfl, fun q hq => absurd hq (by omega)⟩, Lib.hid (fun k hk => hk.elim), Lib.hid (fun h => h), Lib.hid ((Below.refl _ _).alloc (Nat.le_refl _) _), Lib.hid (HO.out.keep ((Below.refl base w).alloc hB _))⟩
  case round =>
    obtain ⟨j, p', g, c, kk, xs, ks, S, hj, rfl, rfl, hp1, hp2, rfl, rfl, hkk, HA, HW, HT, HS, HG, HBW, HO1⟩ := hrel
    by_cases hjn : j < N
    · by_cases hpn2 : p' < n
      · have HR := Lib.hid (show w.heap.size ≤ wr.heap.size from HBW.out.size)
        go_wp2_with fail
        refine (ih p' _ (by omega) hp1 (HO1.out.keep ((Below.refl base wr).alloc (by have := HR.out; omega) _)) (by have := HR.out; simp; omega)).mono ?_
        rintro e w2 ⟨d, l, p2, k2, S2, rfl, ⟨ty, bq, rfl⟩, hfi, hS2, hp3, hp4, hp5, hk2, hg2⟩
        have hA2 : At w2 wr.heap.size 33 #[.nilIface, .int .i32 0] := (hg2.block _ (by simp)).trans (At.new wr 33 _)
        have r0 : w2.cell? ⟨wr.heap.size, 0, none⟩ = some .nilIface := by rw [hA2.cell]; rfl
        have r1 : w2.cell? ⟨wr.heap.size, 1, none⟩ = some (.int .i32 0) := by rw [hA2.cell]; rfl
        have q0 := hA2.frozen 0
        have q1 := hA2.frozen 1
        have lr := hA2.lt
        have OWN := Lib.hid (show ∀ (u0 u1 : Value) (o : Obj), (((w2.setCell ⟨wr.heap.size, 0, none⟩ u0).setCell ⟨wr.heap.size, 1, none⟩ u1).alloc o).ownsRow w.heap.size 33 2 (.slice (some ⟨g, 0, none⟩) j c) j xs from fun u0 u1 o => by
          have zg := (World.ownsRow.lt HW.out g rfl).2
          refine World.ownsRow.alloc (ownKeep HW.out (fun k hk => ?_)) _
          simp only [Value.ownBlock, Option.some.injEq] at hk
          subst hk
          rw [Below.heap_setCell _ _ _ g (by simp; omega), Below.heap_setCell _ _ _ g (by simp; omega)]
          exact (hg2.block g (by simp; omega)).trans (Below.heap_alloc wr _ g zg))
        have NEW := Lib.hid (show ∀ (u0 u1 : Value), ∀ (q : Nat) (u : Value), ([.iface ty (.pointer (some ⟨bq, 0, none⟩)), .int .i32 l] : List Value)[q]? = some u → (((w2.setCell ⟨wr.heap.size, 0, none⟩ u0).setCell ⟨wr.heap.size, 1, none⟩ u1).alloc (.cells #[.iface ty (.pointer (some ⟨bq, 0, none⟩)), .int .i32 l] 33)).cell? ((⟨w2.heap.size, 0, none⟩ : Addr).add q) = some u from fun u0 u1 => by
          have hh := heap_alloc_new ((w2.setCell ⟨wr.heap.size, 0, none⟩ u0).setCell ⟨wr.heap.size, 1, none⟩ u1) (.cells #[.iface ty (.pointer (some ⟨bq, 0, none⟩)), .int .i32 l] 33)
          rw [show ((w2.setCell ⟨wr.heap.size, 0, none⟩ u0).setCell ⟨wr.heap.size, 1, none⟩ u1).heap.size = w2.heap.size from by simp [World.setCell]] at hh
          exact World.news_of_block (cs := #[.iface ty (.pointer (some ⟨bq, 0, none⟩)), .int .i32 l]) (t := 33) (fr := (0, 0)) hh)
        have ONE := Lib.hid (show ∀ u ∈ ([.iface ty (.pointer (some ⟨bq, 0, none⟩)), .int .i32 l] : List Value), u.oneCell' = true from by simp [Value.oneCell'])
        have STEP := Lib.hid (fun u0 u1 o w3 g' c' ho3 hg3 hlie => stepL (N := N) (u0 := u0) (u1 := u1) (o := o) (w3 := w3) (g' := g') (c' := c') hB HO.out hjn hp2 (hp5 hpn2) hp4 hkk HA.out HW.out HT.out HS.out HG.out HBW.out hfi (by simpa using hS2) hk2 (hg2.mono (by simp)) ho3 hg3 hlie)
        have B1 : j + 1 ≤ maxLen := by unfold maxLen; omega
        have B2 : (j + 1) * 24 ≤ 140737488355328 := by omega
        have B3 := Lib.hid (show ∀ u0 u1 o, w.heap.size ≤ (((w2.setCell ⟨wr.heap.size, 0, none⟩ u0).setCell ⟨wr.heap.size, 1, none⟩ u1).alloc o).heap.size from fun _ _ _ => by have := HR.out; simp [World.setCell]; omega)
        have B4 := Lib.hid (show ∀ u0 u1 o, (((w2.setCell ⟨wr.heap.size, 0, none⟩ u0).setCell ⟨wr.heap.size, 1, none⟩ u1).alloc o).heap.size = w2.heap.size + 1 from fun _ _ _ => by simp [World.setCell])
        have B5 : kk + k2 ≤ 4096 := by omega
        clear hfi hS2 hk2 hg2 hA2 HA HW HT HS HG HBW HO1
        go_wp2_with (with_reducible refine wpList_append_lies _ (o := ⟨some 36, _, _, _, _, _⟩) rfl _ _ 36 rfl w.heap.size 33 i0 _ 2 24 Try.underlying36 I0.out I1.out I2.out I3.out rfl (by omega) (.slice (some ⟨g, 0, none⟩) j c) j xs rfl (OWN.out _ _ _) ⟨w2.heap.size, 0, none⟩ 1 1 [.iface ty (.pointer (some ⟨bq, 0, none⟩)), .int .i32 l] rfl rfl (NEW.out _ _) ONE.out (by omega) B1 B2 (B3.out _ _ _) (w2.heap.size + 1) (B4.out _ _ _) ?_)
        intro g' c' w3 ho3 hg3 hlie hlt3
        have DA1 := Lib.hid (STEP.out _ _ _ _ _ _ ho3 hg3 hlie)
        clear ho3 hg3 hlie STEP OWN NEW
        go_wp2_with fail
        go_roundw
        case measure => simp [intOf]; omega
        case rel => exact DA1.out
      · have END := Lib.hid (endL hB hp1 hp2 hkk (by omega) HA.out HW.out HT.out HS.out HG.out HBW.out)
        clear HA HW HT HS HG HBW HO1
        go_wp2_with fail
        go_ret3
        exact END.out
    · have END := Lib.hid (endL hB hp1 hp2 hkk (by omega) HA.out HW.out HT.out HS.out HG.out HBW.out)
      clear HA HW HT HS HG HBW HO1
      go_wp2_with fail
      go_ret3
      exact END.out
end Go.Proofs.Ytppcfibhpgjnoaa
