/- Proved here: analyzeProperty of a method in all settings, and the exported function around it. Conditions: the cells, as stated. -/
import Derived.Test.YtjnffbnipjkibaaDoorAMS
import Derived.Test.YtjnffbnipjkibaaDoorAMC
import Derived.WalkKit
import Derived.WalkSpells
import Derived.WalkLawsBesides
import Derived.Lib.Hide
import Derived.Lib.SliceRun
import Derived.Deep.RegionWith
import Derived.OwnWalk
import Derived.Laws.OwnMore
import Derived.Deep.DeepCutAuto
namespace Go.Proofs.YtjnffbnipjkibaaDoor
open Go.RowKit
set_option linter.unusedSimpArgs false
set_option linter.unusedVariables false

def kvOf (priv : Bool) (kb : Nat) : Value := if priv then .iface 229 (.pointer (some ⟨kb, 0, none⟩)) else .iface 235 (.pointer (some ⟨kb, 0, none⟩))
def nExp (ts ed : Bool) (n : Nat) : Nat := if ts && ed then n else 0
def nStd (ts ed lo : Bool) (n : Nat) : Nat := if ts && ed then 0 else if lo then n else 0
def nCmp (ts ed lo cm : Bool) (n : Nat) : Bool := cm && decide (0 < nExp ts ed n + nStd ts ed lo n)
def AnQ (priv ts ed lo cm : Bool) (n : Nat) (w : World) (e : Ending) (w' : World) : Prop :=
  ∃ pv ea ce sa cs, e = .returned (.agg #[.pointer pv, .slice ea (nExp ts ed n) ce, .slice sa (nStd ts ed lo n) cs, .bool false, .bool true, .bool false, .bool false, .bool false, .bool (nCmp ts ed lo cm n)]) ∧ pv.isSome = priv ∧ Below w.heap.size w w'
def exOf (ed : Bool) : Int := if ed then 1 else 0
theorem apAll (c k b kb D n : Nat) (iv : Value) (hiv : iv = .nilIface ∨ ∃ q, iv = .iface 238 (.pointer (some ⟨q, 0, none⟩))) (fl : Int) (priv ts ed lo cm x y us : Bool) (pf : Int) (hpf : pf = 0 ∨ pf = 8) (w : World) (hf : Flag fl cm) (hp : PB w b ts (exOf ed) pf) (hc : CX w c k us lo) (hk : priv = true → w.cell? ⟨kb, 1, none⟩ = some (.int .u32 0)) (hn1 : n ≤ 4096) :
    Calls Tryd.prog 26 #[.pointer (some ⟨c, 0, none⟩), .pointer (some ⟨b, 0, none⟩), .agg #[.pointer none, kvOf priv kb, .int .i32 0, .nilIface, .int .i32 0, iv, .int .i32 0, .slice (some ⟨D, 0, none⟩) n n, .int .i32 0, .int .i32 0, .int .u8 1, .int .u8 fl], .agg #[.bool x, .bool y, .bool false]] w (AnQ priv ts ed lo cm n w) := by
  have hpn : n = 0 ∨ 0 < n := by omega
  cases priv
  · cases ts
    · cases lo
      · exact (apSN2 c k b kb D n iv hiv fl cm x y us (exOf ed) pf hpf w hf hp hc hn1).mono fun e w' h => ⟨none, none, 0, none, 0, h.1.trans (by simp [nExp, nStd, nCmp]), rfl, h.2⟩
      · rcases hpn with h0 | h0
        · exact (apST2z c k b kb D n iv hiv fl cm x y us (exOf ed) pf hpf w hf hp hc hn1 h0).mono fun e w' h => ⟨none, none, 0, some ⟨D, 0, none⟩, n, h.1.trans (by subst h0; simp [nExp, nStd, nCmp]), rfl, h.2⟩
        · exact (apST2p c k b kb D n iv hiv fl cm x y us (exOf ed) pf hpf w hf hp hc hn1 h0).mono fun e w' h => ⟨none, none, 0, some ⟨D, 0, none⟩, n, h.1.trans (by simp [nExp, nStd, nCmp, h0]), rfl, h.2⟩
    · cases ed
      · cases lo
        · exact (apSN1 c k b kb D n iv hiv fl cm x y us pf hpf w hf hp hc hn1).mono fun e w' h => ⟨none, none, 0, none, 0, h.1.trans (by simp [nExp, nStd, nCmp]), rfl, h.2⟩
        · rcases hpn with h0 | h0
          · exact (apST1z c k b kb D n iv hiv fl cm x y us pf hpf w hf hp hc hn1 h0).mono fun e w' h => ⟨none, none, 0, some ⟨D, 0, none⟩, n, h.1.trans (by subst h0; simp [nExp, nStd, nCmp]), rfl, h.2⟩
          · exact (apST1p c k b kb D n iv hiv fl cm x y us pf hpf w hf hp hc hn1 h0).mono fun e w' h => ⟨none, none, 0, some ⟨D, 0, none⟩, n, h.1.trans (by simp [nExp, nStd, nCmp, h0]), rfl, h.2⟩
      · rcases hpn with h0 | h0
        · exact (apSEz c k b kb D n iv hiv fl cm x y us lo pf hpf w hf hp hc hn1 h0).mono fun e w' h => ⟨none, some ⟨D, 0, none⟩, n, none, 0, h.1.trans (by subst h0; simp [nExp, nStd, nCmp]), rfl, h.2⟩
        · exact (apSEp c k b kb D n iv hiv fl cm x y us lo pf hpf w hf hp hc hn1 h0).mono fun e w' h => ⟨none, some ⟨D, 0, none⟩, n, none, 0, h.1.trans (by simp [nExp, nStd, nCmp, h0]), rfl, h.2⟩
  · cases ts
    · cases lo
      · exact (apPN2 c k b kb D n iv hiv fl cm x y us (exOf ed) pf hpf w hf hp hc (hk rfl) hn1).mono fun e w' h => ⟨some ⟨kb, 0, none⟩, none, 0, none, 0, h.1.trans (by simp [nExp, nStd, nCmp]), rfl, h.2⟩
      · rcases hpn with h0 | h0
        · exact (apPT2z c k b kb D n iv hiv fl cm x y us (exOf ed) pf hpf w hf hp hc (hk rfl) hn1 h0).mono fun e w' h => ⟨some ⟨kb, 0, none⟩, none, 0, some ⟨D, 0, none⟩, n, h.1.trans (by subst h0; simp [nExp, nStd, nCmp]), rfl, h.2⟩
        · exact (apPT2p c k b kb D n iv hiv fl cm x y us (exOf ed) pf hpf w hf hp hc (hk rfl) hn1 h0).mono fun e w' h => ⟨some ⟨kb, 0, none⟩, none, 0, some ⟨D, 0, none⟩, n, h.1.trans (by simp [nExp, nStd, nCmp, h0]), rfl, h.2⟩
    · cases ed
      · cases lo
        · exact (apPN1 c k b kb D n iv hiv fl cm x y us pf hpf w hf hp hc (hk rfl) hn1).mono fun e w' h => ⟨some ⟨kb, 0, none⟩, none, 0, none, 0, h.1.trans (by simp [nExp, nStd, nCmp]), rfl, h.2⟩
        · rcases hpn with h0 | h0
          · exact (apPT1z c k b kb D n iv hiv fl cm x y us pf hpf w hf hp hc (hk rfl) hn1 h0).mono fun e w' h => ⟨some ⟨kb, 0, none⟩, none, 0, some ⟨D, 0, none⟩, n, h.1.trans (by subst h0; simp [nExp, nStd, nCmp]), rfl, h.2⟩
          · exact (apPT1p c k b kb D n iv hiv fl cm x y us pf hpf w hf hp hc (hk rfl) hn1 h0).mono fun e w' h => ⟨some ⟨kb, 0, none⟩, none, 0, some ⟨D, 0, none⟩, n, h.1.trans (by simp [nExp, nStd, nCmp, h0]), rfl, h.2⟩
      · rcases hpn with h0 | h0
        · exact (apPEz c k b kb D n iv hiv fl cm x y us lo pf hpf w hf hp hc (hk rfl) hn1 h0).mono fun e w' h => ⟨some ⟨kb, 0, none⟩, some ⟨D, 0, none⟩, n, none, 0, h.1.trans (by subst h0; simp [nExp, nStd, nCmp]), rfl, h.2⟩
        · exact (apPEp c k b kb D n iv hiv fl cm x y us lo pf hpf w hf hp hc (hk rfl) hn1 h0).mono fun e w' h => ⟨some ⟨kb, 0, none⟩, some ⟨D, 0, none⟩, n, none, 0, h.1.trans (by simp [nExp, nStd, nCmp, h0]), rfl, h.2⟩

def A11 (priv ts ed lo cm : Bool) (n : Nat) (w : World) (e : Ending) (w' : World) : Prop :=
  e = .returned (.agg #[.bool priv, .int .i64 (nExp ts ed n : Nat), .int .i64 (nStd ts ed lo n : Nat), .bool false, .bool true, .bool false, .bool false, .bool false, .bool (nCmp ts ed lo cm n)]) ∧ Below w.heap.size w w'
set_option maxRecDepth 100000 in
set_option maxHeartbeats 8000000 in
theorem an11 (c k b kb R cap D n : Nat) (iv : Value) (hiv : iv = .nilIface ∨ ∃ q, iv = .iface 238 (.pointer (some ⟨q, 0, none⟩))) (fl : Int) (priv ts ed lo cm x y us : Bool) (pf : Int) (hpf : pf = 0 ∨ pf = 8) (w : World) (hf : Flag fl cm) (hp : PB w b ts (exOf ed) pf) (hc : CX w c k us lo) (hm : MP w k R cap (kvOf priv kb) iv D n fl) (hk : priv = true → w.cell? ⟨kb, 1, none⟩ = some (.int .u32 0)) (hn1 : n ≤ 4096) :
    Calls Tryd.prog 11 #[.pointer (some ⟨c, 0, none⟩), .pointer (some ⟨b, 0, none⟩), .int .i64 0, .bool x, .bool y] w (A11 priv ts ed lo cm n w) := by
  have HC := Lib.hid (apAll c k b kb D n iv hiv fl priv ts ed lo cm x y us pf hpf (w.alloc (.cells #[.bool false, .int .i64 0, .int .i64 0, .bool false, .bool false, .bool false, .bool false, .bool false, .bool false] 35)) hf (hp.keep ((Below.refl _ _).alloc (Nat.le_refl _) _)) ⟨kAlloc hc.1, kAlloc hc.2.1, kAlloc hc.2.2⟩ (fun h => kAlloc (hk h)) hn1)
  obtain ⟨h4, m0, m1, m2, m3, m4, m5, m6, m7, m8, m9, m10, m11, f5, f6⟩ := hm
  obtain ⟨h2, _, _⟩ := hc
  have lk : k < w.heap.size := World.block_lt_of_cell? _ _ h4
  have lc : c < w.heap.size := World.block_lt_of_cell? _ _ h2
  have lR : R < w.heap.size := World.block_lt_of_cell? _ _ m0
  obtain ⟨le, hle⟩ : ∃ le, nExp ts ed n = le := ⟨_, rfl⟩
  obtain ⟨ls, hls⟩ : ∃ ls, nStd ts ed lo n = ls := ⟨_, rfl⟩
  obtain ⟨cmp, hcmp⟩ : ∃ cmp, nCmp ts ed lo cm n = cmp := ⟨_, rfl⟩
  obtain ⟨ty, hkv⟩ : ∃ ty, kvOf priv kb = .iface ty (.pointer (some ⟨kb, 0, none⟩)) := by unfold kvOf; cases priv <;> exact ⟨_, rfl⟩
  unfold AnQ at HC
  unfold A11
  rw [hle, hls, hcmp] at HC ⊢
  rw [hkv] at HC m1
  clear hle hls hcmp hkv hp hk hf
  rcases hiv with rfl | ⟨q, rfl⟩
  all_goals
    go_enter Tryd.func11, Tryd.ntmps11
    go_wp2_with fail
    refine HC.out.mono ?_
    rintro e w1 ⟨pv, ea, ce, sa, cs, rfl, hpv, hb⟩
    have HB := Lib.hid (bel2 ((Below.refl w.heap.size w).alloc (Nat.le_refl _) _) hb)
    subst hpv
    have d0 : w1.cell? ⟨w.heap.size, 0, none⟩ = some (.bool false) := kept hb (by simp [go_sem])
    have e0 : w1.frozen? ⟨w.heap.size, 0, none⟩ = false := keptF hb (o := 0) (v := (.bool false)) (by simp [go_sem]) (by simp [go_sem])
    have d1 : w1.cell? ⟨w.heap.size, 1, none⟩ = some (.int .i64 0) := kept hb (by simp [go_sem])
    have e1 : w1.frozen? ⟨w.heap.size, 1, none⟩ = false := keptF hb (o := 1) (v := (.int .i64 0)) (by simp [go_sem]) (by simp [go_sem])
    have d2 : w1.cell? ⟨w.heap.size, 2, none⟩ = some (.int .i64 0) := kept hb (by simp [go_sem])
    have e2 : w1.frozen? ⟨w.heap.size, 2, none⟩ = false := keptF hb (o := 2) (v := (.int .i64 0)) (by simp [go_sem]) (by simp [go_sem])
    have d3 : w1.cell? ⟨w.heap.size, 3, none⟩ = some (.bool false) := kept hb (by simp [go_sem])
    have e3 : w1.frozen? ⟨w.heap.size, 3, none⟩ = false := keptF hb (o := 3) (v := (.bool false)) (by simp [go_sem]) (by simp [go_sem])
    have d4 : w1.cell? ⟨w.heap.size, 4, none⟩ = some (.bool false) := kept hb (by simp [go_sem])
    have e4 : w1.frozen? ⟨w.heap.size, 4, none⟩ = false := keptF hb (o := 4) (v := (.bool false)) (by simp [go_sem]) (by simp [go_sem])
    have d5 : w1.cell? ⟨w.heap.size, 5, none⟩ = some (.bool false) := kept hb (by simp [go_sem])
    have e5 : w1.frozen? ⟨w.heap.size, 5, none⟩ = false := keptF hb (o := 5) (v := (.bool false)) (by simp [go_sem]) (by simp [go_sem])
    have d6 : w1.cell? ⟨w.heap.size, 6, none⟩ = some (.bool false) := kept hb (by simp [go_sem])
    have e6 : w1.frozen? ⟨w.heap.size, 6, none⟩ = false := keptF hb (o := 6) (v := (.bool false)) (by simp [go_sem]) (by simp [go_sem])
    have d7 : w1.cell? ⟨w.heap.size, 7, none⟩ = some (.bool false) := kept hb (by simp [go_sem])
    have e7 : w1.frozen? ⟨w.heap.size, 7, none⟩ = false := keptF hb (o := 7) (v := (.bool false)) (by simp [go_sem]) (by simp [go_sem])
    have d8 : w1.cell? ⟨w.heap.size, 8, none⟩ = some (.bool false) := kept hb (by simp [go_sem])
    have e8 : w1.frozen? ⟨w.heap.size, 8, none⟩ = false := keptF hb (o := 8) (v := (.bool false)) (by simp [go_sem]) (by simp [go_sem])
    have lw : w.heap.size < w1.heap.size := World.block_lt_of_cell? _ _ d0
    clear hb HC
    cases pv
    all_goals
      go_wp2_with fail
      exact bodyPost_ret (v := .agg #[.bool _, .int .i64 le, .int .i64 ls, .bool false, .bool true, .bool false, .bool false, .bool false, .bool cmp]) (by simp [results, Tryd.results11, go_sem, *]) rfl ⟨rfl, (by repeat (first | with_reducible exact HB.out | (with_reducible refine Below.alloc ?_ (by have := Below.size HB.out; simp; try omega) _) | (with_reducible refine Below.setCell ?_ (by simp) _)))⟩
end Go.Proofs.YtjnffbnipjkibaaDoor
