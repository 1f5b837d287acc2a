/- Proved here: the walk of FnKeepNameCallsShareOneRuntimeSymbol: it returns true. Conditions: the arguments lie as stated. -/
import Derived.Test.YtlbkdflbhhbibaaDoorUNZ
import Derived.Test.YtlbkdflbhhbibaaDoorUNR
import Derived.WalkKit
import Derived.WalkSpells
import Derived.WalkLawsBesides
import Derived.Lib.Hide
import Derived.Lib.SliceRun
import Derived.Deep.RegionWith
import Derived.OwnWalk
import Derived.Laws.OwnMore
import Derived.BigRegion
import Derived.Deep.RegionHeld3
import Derived.Deep.LoopGhost
import Derived.Deep.Cut
import Derived.Deep.CutRange
import Derived.Deep.Quiet
import Derived.Deep.QuietTactic
namespace Go.Proofs.YtlbkdflbhhbibaaDoor.fnKeepNameCallsShareOneRuntimeSymbol
open Go.RowKit
set_option linter.unusedSimpArgs false
set_option linter.unusedVariables false

def RowS (w : World) (a : Option Addr) (len : Nat) (f : Nat → Value) : Prop :=
  0 < len → ∃ B off, a = some ⟨B, off, none⟩ ∧ ∀ i, i < len → w.cell? ⟨B, off + i, none⟩ = some (f i)
theorem rowv_strs {w : World} {a : Option Addr} {len cap : Nat} {zs : List ByteArray} (h : IsStrs w a len cap zs) : RowS w a len (fun i => .string (zs.getD i ByteArray.empty)) := by
  intro hp
  rcases h with ⟨_, rfl, _⟩ | ⟨x, rfl, hl, hm, hz, hcell, _⟩
  · omega
  · obtain ⟨b, off, rfl⟩ := spot_none (hcell 0 (by omega))
    exact ⟨b, off, rfl, fun i hi => by rw [← add_none]; exact hcell i (by omega)⟩
theorem len_strs {w : World} {a : Option Addr} {len cap : Nat} {zs : List ByteArray} (h : IsStrs w a len cap zs) : len ≤ maxLen ∧ ∀ i, (zs.getD i ByteArray.empty).size ≤ maxLen := by
  rcases h with ⟨_, rfl, _, rfl⟩ | ⟨x, rfl, hl, hm, hz, hcell, hw⟩
  · exact ⟨by unfold maxLen; omega, fun i => by simp⟩
  · refine ⟨by omega, fun i => ?_⟩
    by_cases hi : i < zs.length
    · exact hw _ (by simp [List.getD, hi])
    · simp [List.getD, hi]

def sAt (zs : List ByteArray) (i : Nat) : ByteArray := zs.getD i ByteArray.empty
def BRel (n : Nat) (zs : List ByteArray) (w : World) (z i : Value) (wr : World) : Prop := ∃ k t : Nat, k ≤ n ∧ t ≤ 1048576 ∧ z = .int .i64 t ∧ i = .int .i64 k ∧ w = wr ∧ Hid (∀ j, j < k → (sAt zs j).size ≤ 1048576)
def BYP (n : Nat) (zs : List ByteArray) (w : World) (e : Ending) (w' : World) : Prop := (∃ b, e = .returned (.bool b) ∧ (b = true → ∀ j, j < n → (sAt zs j).size ≤ 1048576)) ∧ w = w'
theorem w64 (n : Int) (h : -9223372036854775808 ≤ n ∧ n ≤ 9223372036854775807) : wrap64 n = n := by unfold wrap64; omega
set_option maxRecDepth 100000 in
theorem bytes_any (a : Option Addr) (n c : Nat) (zs : List ByteArray) (l : Int) (w : World) (hr : RowS w a n (fun i => .string (sAt zs i))) (hz : ∀ i, (sAt zs i).size ≤ maxLen) (hn : n ≤ maxLen) :
    Calls Tryd.prog 11 #[.slice a n c, .int .i32 l] w (BYP n zs w) := by
  unfold maxLen at hn
  have HR := Lib.hid hr
  have HZ := Lib.hid hz
  clear hr hz
  by_cases hbig : 1048576 < n
  · go_enter Tryd.func11, Tryd.ntmps11
    go_wp2_with fail
    go_ret
    exact ⟨⟨_, rfl, fun h => by cases h⟩, rfl⟩
  · go_enter Tryd.func11, Tryd.ntmps11
    go_wp2_with fail
    go_loopw [5, 6] (fun z i wr => BRel n zs w z i wr) (fun _ i _ => n - (intOf i).toNat)
    case atStart => exact ⟨0, n, by omega, by omega, rfl, rfl, rfl, Lib.hid (fun j hj => absurd hj (by omega))⟩
    case round =>
      obtain ⟨k, t, hk, ht, rfl, rfl, rfl, HS⟩ := hrel
      by_cases hlt : k < n
      · obtain ⟨B, off, rfl, hc⟩ := HR.out (by omega)
        have c0 := hc k hlt
        have hB := World.block_lt_of_cell? _ _ c0
        obtain ⟨s, hs⟩ : ∃ s, s = sAt zs k := ⟨_, rfl⟩
        simp only [← hs] at c0
        have hsz : s.size ≤ maxLen := by rw [hs]; exact HZ.out k
        unfold maxLen at hsz
        have HSS := Lib.hid hs
        clear hs hc
        by_cases h1 : 1048576 < s.size
        · go_wp2_with fail
          go_ret
          exact ⟨⟨_, rfl, fun h => by cases h⟩, rfl⟩
        · have h1' : s.size ≤ 1048576 := by omega
          have hw := w64 ((t : Int) + (s.size : Int)) (by omega)
          by_cases h2 : 1048576 < t + s.size
          · have h3 : (1048576 : Int) < (t : Int) + (s.size : Int) := by omega
            go_wp2_with fail
            go_ret
            exact ⟨⟨_, rfl, fun h => by cases h⟩, rfl⟩
          · have h3 : ¬ (1048576 : Int) < (t : Int) + (s.size : Int) := by omega
            have HN := Lib.hid (show ∀ j, j < k + 1 → (sAt zs j).size ≤ 1048576 from fun j hj => by
              by_cases ej : j = k
              · subst ej; rw [← HSS.out]; omega
              · exact HS.out j (by omega))
            clear HSS HS
            go_wp2_with fail
            go_roundw
            case rel => exact ⟨k + 1, t + s.size, by omega, by omega, by go_num, by go_num, rfl, HN⟩
            case measure => simp [intOf]; omega
      · have e : k = n := by omega
        subst e
        go_wp2_with fail
        go_ret
        exact ⟨⟨_, rfl, fun _ => HS.out⟩, rfl⟩

theorem setSame {w : World} {g : Nat} {t : TypeId} {cs : Array Value} {i : Nat} {v : Value} (h : At w g t cs) (hv : cs[i]? = some v) : w.setCell ⟨g, i, none⟩ v = w := by
  have hcs : cs.setIfInBounds i v = cs := by
    apply Array.ext_getElem?
    intro k
    by_cases e : k = i
    · subst e
      have hi := (Array.getElem?_eq_some_iff.1 hv).1
      rw [hv]
      simp [hi]
    · rw [Array.getElem?_setIfInBounds_ne (by omega)]
  have hh : (w.setCell ⟨g, i, none⟩ v).heap = w.heap := by
    apply Array.ext_getElem?
    intro k
    by_cases e : k = g
    · subst e
      have h1 := h.set i v
      unfold At at h h1
      rw [h1, h, hcs]
    · exact Below.heap_setCell _ _ _ k (by simpa using e)
  have : w.setCell ⟨g, i, none⟩ v = { w with heap := (w.setCell ⟨g, i, none⟩ v).heap } := rfl
  rw [this, hh]
def TRel (n : Nat) (zs : List ByteArray) (w : World) (z i : Value) (wr : World) : Prop := ∃ k t : Nat, k ≤ n ∧ t ≤ 1048576 ∧ z = .int .i64 t ∧ i = .int .i64 k ∧ w = wr ∧ Hid (∀ j, j < k → (sAt zs j).size ≤ 1048576)
/-- What holds at the loop's head after k calls. -/
structure ST (w : World) (b m c z8 z9 : Nat) (l : Int) (k : Nat) (wr : World) : Prop where
  p0 : k = 0 → P0 wr w.heap.size b m c
  p1 : 0 < k → P1 wr w.heap.size b m l k
  a8 : At wr z8 29 #[.int .i32 l]
  a9 : At wr z9 58 #[.int .u32 0, .int .u32 0]
  bl : Below w.heap.size w wr
theorem ST.imph {w : World} {b m c z8 z9 : Nat} {l : Int} {k : Nat} {wr : World} (h : ST w b m c z8 z9 l k wr) (hk : k ≤ 4096) (h0 : 0 < w.heap.size) (hg0 : w.cell? ⟨0, 0, none⟩ = some (.int .u32 4294967295)) (hg1 : w.cell? ⟨0, 1, none⟩ = some (.int .u32 4294967295)) : IMPH w.heap.size b m l l k wr := by
  by_cases e : k = 0
  · subst e
    exact imph0 h0 h.bl.size (kept h.bl hg0) (kept h.bl hg1) (h.p0 rfl)
  · exact imph1 (by omega) h.bl.size (h.p1 (by omega))
theorem ST.lb {w : World} {b m c z8 z9 : Nat} {l : Int} {k : Nat} {wr : World} (h : ST w b m c z8 z9 l k wr) : b < wr.heap.size := by
  by_cases e : k = 0
  · obtain ⟨_, _, _, h, _⟩ := h.p0 e
    exact World.block_lt_of_cell? _ _ h
  · obtain ⟨_, _, _, _, _, h, _⟩ := h.p1 (by omega)
    exact World.block_lt_of_cell? _ _ h
def RL (n : Nat) (w : World) (b m c z8 z9 : Nat) (l : Int) (g : Nat) (i : Value) (wr : World) : Prop := ∃ k : Nat, g + k = n ∧ i = .int .i64 k ∧ Hid (ST w b m c z8 z9 l k wr)
def CU (w : World) (b m z8 z9 : Nat) (l : Int) (k : Nat) (s : ByteArray) (s12 : Value) (wx : World) : Prop :=
  ∃ (e0 : Nat) (u : Bool) (d : Value), s12 = .pointer (some ⟨e0, 0, none⟩) ∧ Hid (NC wx e0 l l d s u) ∧ Hid (P1 wx w.heap.size b m l (k + 1)) ∧ Hid (At wx z8 29 #[.int .i32 l]) ∧ Hid (At wx z9 58 #[.int .u32 0, .int .u32 0]) ∧ Hid (Below w.heap.size w wx)
set_option maxRecDepth 100000 in
theorem early (a0 : Option Addr) (len0 cap0 : Nat) (z0 : List ByteArray) (a1 : Int) (w : World) (hr : RowS w a0 len0 (fun i => .string (sAt z0 i))) (hz : ∀ i, (sAt z0 i).size ≤ maxLen) (hn : len0 ≤ maxLen) (h : 4096 < len0) :
    Calls Tryd.prog 4 #[.slice a0 len0 cap0, .int .i32 a1] w fun e w' => e = .returned (.bool true) ∧ Below w.heap.size w w' := by
  have HB := Lib.hid (bytes_any a0 len0 cap0 z0 a1 w hr hz hn)
  unfold maxLen at hn
  clear hr hz
  go_enter Tryd.func4, Tryd.ntmps4
  go_wp2_with fail
  refine HB.out.mono ?_
  rintro e w' ⟨⟨b, rfl, _⟩, rfl⟩
  cases b
  · go_wp2_with fail
    go_ret
    exact ⟨rfl, Below.refl _ _⟩
  · go_wp2_with fail
    go_ret
    exact ⟨rfl, Below.refl _ _⟩
set_option maxRecDepth 100000 in
set_option maxHeartbeats 16000000 in
theorem walk (a0 : Option Addr) (len0 cap0 : Nat) (z0 : List ByteArray) (a1 : Int) (w : World) (w0 : IsStrs w a0 len0 cap0 z0) (w1 : (Lit.int .i32 a1).wf = true)
    (hg0 : w.cell? ⟨0, 0, none⟩ = some (.int .u32 4294967295)) (hg1 : w.cell? ⟨0, 1, none⟩ = some (.int .u32 4294967295)) :
    Calls Tryd.prog 4 #[.slice a0 len0 cap0, .int .i32 a1] w fun e w' => e = .returned (.bool true) ∧ Below w.heap.size w w' := by
  clear w1
  have lw0 : 0 < w.heap.size := World.block_lt_of_cell? _ _ hg0
  have hr : RowS w a0 len0 (fun i => .string (sAt z0 i)) := rowv_strs w0
  obtain ⟨hn, hz⟩ := len_strs w0
  by_cases hbig : 4096 < len0
  · exact early a0 len0 cap0 z0 a1 w hr hz hn hbig
  have HB := Lib.hid (bytes_any a0 len0 cap0 z0 a1 w hr hz hn)
  have HR := Lib.hid hr
  have HZ := Lib.hid (show ∀ i, (sAt z0 i).size ≤ maxLen from hz)
  have HG := Lib.hid (And.intro hg0 hg1)
  clear hr hz hn w0 hg0 hg1
  go_enter Tryd.func4, Tryd.ntmps4
  go_wp2_with fail
  refine HB.out.mono ?_
  rintro e w' ⟨⟨bb, rfl, hsz⟩, rfl⟩
  have HSZ := Lib.hid hsz
  clear HB hsz
  cases bb
  · go_wp2_with fail
    go_ret
    exact ⟨rfl, Below.refl _ _⟩
  go_wp2_with fail
  go_loopw [5, 6] (fun z i wr => TRel len0 z0 w z i wr) (fun _ i _ => len0 - (intOf i).toNat)
  case atStart => exact ⟨0, 0, by omega, by omega, rfl, rfl, rfl, Lib.hid (fun j hj => absurd hj (by omega))⟩
  case round =>
    obtain ⟨k, t, hk, ht, rfl, rfl, rfl, HS⟩ := hrel
    by_cases hlt : k < len0
    · obtain ⟨B, off, rfl, hc⟩ := HR.out (by omega)
      have c0 := hc k hlt
      have hB := World.block_lt_of_cell? _ _ c0
      obtain ⟨s, hs⟩ : ∃ s, s = sAt z0 k := ⟨_, rfl⟩
      simp only [← hs] at c0
      have hsz : s.size ≤ 1048576 := by rw [hs]; exact HSZ.out (by trivial) k hlt
      have hw1 := w64 (16 + (s.size : Int)) (by omega)
      have hw2 := w64 ((t : Int) + (16 + (s.size : Int))) (by omega)
      have HSS := Lib.hid hs
      clear hs hc
      by_cases h2 : 1048576 < t + (16 + s.size)
      · have h3 : (1048576 : Int) < (t : Int) + (16 + (s.size : Int)) := by omega
        go_wp2_with fail
        go_ret
        exact ⟨rfl, Below.refl _ _⟩
      · have h3 : ¬ (1048576 : Int) < (t : Int) + (16 + (s.size : Int)) := by omega
        have HN := Lib.hid (show ∀ j, j < k + 1 → (sAt z0 j).size ≤ 1048576 from fun j hj => by
          by_cases ej : j = k
          · subst ej; rw [← HSS.out]; omega
          · exact HS.out j (by omega))
        clear HSS HS
        go_wp2_with fail
        go_roundw
        case rel => exact ⟨k + 1, t + (16 + s.size), by omega, by omega, by go_num, by go_num, rfl, HN⟩
        case measure => simp [intOf]; omega
    · have e : k = len0 := by omega
      subst e
      clear ht
      go_wp2_with fail
      refine (newP w).mono ?_
      rintro e w1 ⟨b, m, c, rfl, hp0, hb1⟩
      have HP0 := Lib.hid hp0
      have HB1 := Lib.hid hb1
      clear hp0 hb1
      go_wp2_with fail
      obtain ⟨z8, hz8⟩ : ∃ z, z = w1.heap.size := ⟨_, rfl⟩
      have START := Lib.hid (show ST w b m c z8 (z8 + 1) a1 0 ((w1.alloc (.cells #[.int .i32 a1] 29)).alloc (.cells #[.int .u32 0, .int .u32 0] 58)) from by
        have hb2 : Below w1.heap.size w1 ((w1.alloc (.cells #[.int .i32 a1] 29)).alloc (.cells #[.int .u32 0, .int .u32 0] 58)) := ((Below.refl _ _).alloc (Nat.le_refl _) _).alloc (by simp) _
        refine ⟨fun _ => HP0.out.below hb2, fun h => absurd h (by omega), ?_, ?_, HB1.out.trans (hb2.mono HB1.out.size)⟩
        · rw [hz8]; exact (At.new w1 29 _).alloc _
        · rw [hz8]
          have := At.new (w1.alloc (.cells #[.int .i32 a1] 29)) 58 #[.int .u32 0, .int .u32 0]
          rwa [show (w1.alloc (.cells #[.int .i32 a1] 29)).heap.size = w1.heap.size + 1 from by simp] at this)
      rw [← hz8]
      obtain ⟨W1, hW1⟩ : ∃ W, W = ((w1.alloc (.cells #[.int .i32 a1] 29)).alloc (.cells #[.int .u32 0, .int .u32 0] 58)) := ⟨_, rfl⟩
      rw [← hW1] at START ⊢
      clear hz8 hW1 HP0 HB1
      go_loopg [10] k (fun g i wr => RL k w b m c z8 (z8 + 1) a1 g i wr)
      case atStart => exact ⟨0, by omega, rfl, START⟩
      case round =>
        obtain ⟨j, hjk, rfl, HST⟩ := hrel
        clear START
        have lb := HST.out.lb
        have A8 := HST.out.a8
        have A9 := HST.out.a9
        have l8 := A8.lt
        have l9 := A9.lt
        have zwr := HST.out.bl.size
        by_cases hlt : j < k
        · obtain ⟨BN, off, rfl, hc⟩ := HR.out (by omega)
          have c0 := hc j hlt
          have hBN := World.block_lt_of_cell? _ _ c0
          obtain ⟨s, hs⟩ : ∃ s, s = sAt z0 j := ⟨_, rfl⟩
          simp only [← hs] at c0
          have hsz : s.size ≤ 1048576 := by rw [hs]; exact HS.out j hlt
          have HNM := Lib.hid (fun (W : World) (hb : Below w.heap.size w W) => kept hb c0)
          have x8 : wr.cell? ⟨z8, 0, none⟩ = some (.int .i32 a1) := by rw [A8.cell]; rfl
          have HA8 := Lib.hid A8
          have HA9 := Lib.hid A9
          clear hs hc c0 A8 A9
          go_upto_if 64 with (fail)
          obtain ⟨V, hV⟩ : ∃ V, V = (wr.alloc (.cells #[.float .f64 (floatOfInt .f64 (j : Int))] 35)).alloc (.cells #[.iface 33 (.pointer (some ⟨wr.heap.size, 0, none⟩)), .int .i32 a1] 39) := ⟨_, rfl⟩
          rw [← hV]
          obtain ⟨z35, hz35⟩ : ∃ z, z = wr.heap.size := ⟨_, rfl⟩
          rw [← hz35]
          have hWV : Below wr.heap.size wr V := by rw [hV]; exact ((Below.refl _ _).alloc (Nat.le_refl _) _).alloc (by simp) _
          have AV11 : At V (z35 + 1) 39 #[.iface 33 (.pointer (some ⟨z35, 0, none⟩)), .int .i32 a1] := by
            rw [hV, hz35]
            have := At.new (wr.alloc (.cells #[.float .f64 (floatOfInt .f64 (j : Int))] 35)) 39 #[.iface 33 (.pointer (some ⟨wr.heap.size, 0, none⟩)), .int .i32 a1]
            rwa [show (wr.alloc (.cells #[.float .f64 (floatOfInt .f64 (j : Int))] 35)).heap.size = wr.heap.size + 1 from by simp] at this
          have IMV := Lib.hid ((HST.out.imph (by omega) lw0 HG.out.1 HG.out.2).below hWV)
          have BV := Lib.hid (HST.out.bl.trans (hWV.mono HST.out.bl.size))
          have A8V := Lib.hid (HA8.out.below hWV l8)
          have A9V := Lib.hid (HA9.out.below hWV l9)
          have lbV : b < V.heap.size := Nat.lt_of_lt_of_le lb hWV.size
          have lwV : w.heap.size ≤ V.heap.size := BV.out.size
          have H11 := Lib.hid AV11
          have c11a : V.cell? ⟨z35 + 1, 0, none⟩ = some (.iface 33 (.pointer (some ⟨z35, 0, none⟩))) := by rw [AV11.cell]; rfl
          have c11b : V.cell? ⟨z35 + 1, 1, none⟩ = some (.int .i32 a1) := by rw [AV11.cell]; rfl
          have l11 := AV11.lt
          have c8 : V.cell? ⟨z8, 0, none⟩ = some (.int .i32 a1) := by rw [A8V.out.cell]; rfl
          have l8V := A8V.out.lt
          have cN := HNM.out V BV.out
          have lNV := World.block_lt_of_cell? _ _ cN
          clear hV hz35 hWV HST HA8 HA9 x8 AV11
          go_cut [12] from 49 to 149 (fun s12 wx => CU w b m z8 (z8 + 1) a1 j s s12 wx)
          case first =>
            have j0 : (0 : Int) ≤ (j : Int) := Int.natCast_nonneg _
            by_cases hev : j % 2 = 0
            · have e1 : (j : Int).tmod 2 = 0 := by rw [Int.tmod_eq_emod_of_nonneg j0]; omega
              have e2 : (j : Int) % 2 = 0 := by omega
              have HKE := Lib.hid (show ∀ W', Below V.heap.size V W' → Calls Tryd.prog 12 #[.pointer (some ⟨b, 0, none⟩), .agg #[.iface 33 (.pointer (some ⟨z35, 0, none⟩)), .int .i32 a1], .string s] W' (KEP w.heap.size b m a1 a1 j (.iface 33 (.pointer (some ⟨z35, 0, none⟩))) s W') from fun W' hW' => zkeepE w.heap.size b m a1 a1 j 33 (.pointer (some ⟨z35, 0, none⟩)) s W' hsz (by have := hW'.size; omega) (by have := hW'.size; omega) (IMV.out.below hW'))
              go_wp2_with fail
              go_region_held3 (fun w' => w'.cell? ⟨z35 + 1, 0, none⟩ = some (.iface 33 (.pointer (some ⟨z35, 0, none⟩))) ∧ w'.cell? ⟨z35 + 1, 1, none⟩ = some (.int .i32 a1) ∧ w'.cell? ⟨BN, off + j, none⟩ = some (.string s)) (repeat' (first | (refine And.intro ?_ ?_) | with_reducible assumption | apply kAlloc | apply kDrew | (refine kSet ?_ (by omega)))) (first
                | (go_at_call 12; (with_reducible refine Calls.mono (HKE.out _ ((Below.refl _ _).drew)) ?_); rintro e Z ⟨e0, rfl, hnc, hp, hkq, hbl⟩; have KZ : Kq V Z := (hkq); have BZ : Below w.heap.size w Z := ((BV.out.drew).trans hbl); have zZ := hbl.size; have zz : V.heap.size ≤ Z.heap.size := (by simp at zZ; omega); have A11 : At Z (z35 + 1) 39 #[.iface 33 (.pointer (some ⟨z35, 0, none⟩)), .int .i32 a1] := (H11.out.kq KZ (by decide) (by decide) (by decide)); have y0 : Z.cell? ⟨z35 + 1, 0, none⟩ = some (.iface 33 (.pointer (some ⟨z35, 0, none⟩))) := (by rw [A11.cell]; rfl); have y1 : Z.cell? ⟨z35 + 1, 1, none⟩ = some (.int .i32 a1) := (by rw [A11.cell]; rfl); have yN := HNM.out Z BZ; have A8Z : At Z z8 29 #[.int .i32 a1] := (A8V.out.kq KZ (by decide) (by decide) (by decide)); have A9Z : At Z (z8 + 1) 58 #[.int .u32 0, .int .u32 0] := (A9V.out.kq KZ (by decide) (by decide) (by decide)); have y8 : Z.cell? ⟨z8, 0, none⟩ = some (.int .i32 a1) := (by rw [A8Z.cell]; rfl))
                | (go_at_call 12; (with_reducible refine Calls.mono (HKE.out _ (((Below.refl _ _).alloc (Nat.le_refl _) _).drew)) ?_); rintro e Z ⟨e0, rfl, hnc, hp, hkq, hbl⟩; have KZ : Kq V Z := (((Kq.refl V).alloc _).trans hkq); have BZ : Below w.heap.size w Z := (((BV.out.alloc lwV _).drew).trans hbl); have zZ := hbl.size; have zz : V.heap.size ≤ Z.heap.size := (by simp at zZ; omega); have A11 : At Z (z35 + 1) 39 #[.iface 33 (.pointer (some ⟨z35, 0, none⟩)), .int .i32 a1] := (H11.out.kq KZ (by decide) (by decide) (by decide)); have y0 : Z.cell? ⟨z35 + 1, 0, none⟩ = some (.iface 33 (.pointer (some ⟨z35, 0, none⟩))) := (by rw [A11.cell]; rfl); have y1 : Z.cell? ⟨z35 + 1, 1, none⟩ = some (.int .i32 a1) := (by rw [A11.cell]; rfl); have yN := HNM.out Z BZ; have A8Z : At Z z8 29 #[.int .i32 a1] := (A8V.out.kq KZ (by decide) (by decide) (by decide)); have A9Z : At Z (z8 + 1) 58 #[.int .u32 0, .int .u32 0] := (A9V.out.kq KZ (by decide) (by decide) (by decide)); have y8 : Z.cell? ⟨z8, 0, none⟩ = some (.int .i32 a1) := (by rw [A8Z.cell]; rfl); have AN : At Z V.heap.size 39 #[.nilIface, .int .i32 0] := ((At.new V 39 #[.nilIface, .int .i32 0]).kq hkq (by decide) (by decide) (by decide)); have n0 : Z.cell? ⟨V.heap.size, 0, none⟩ = some .nilIface := (by rw [AN.cell]; rfl); have n1 : Z.cell? ⟨V.heap.size, 1, none⟩ = some (.int .i32 0) := (by rw [AN.cell]; rfl); have nf0 := AN.frozen 0; have nf1 := AN.frozen 1; have nl := AN.lt))
              · obtain ⟨Z2, hZ2⟩ : ∃ Z2, Z2 = Z.alloc (.cells #[.iface 45 (.pointer (some ⟨e0, 0, none⟩)), .int .i32 a1] 39) := ⟨_, rfl⟩
                have hb2 : Below Z.heap.size Z Z2 := by rw [hZ2]; exact (Below.refl _ _).alloc (Nat.le_refl _) _
                have N2 := Lib.hid (hnc.kq (Kq.of_below hb2))
                have P2 := Lib.hid (hp.below hb2)
                have A82 := Lib.hid (A8Z.below hb2 A8Z.lt)
                have A92 := Lib.hid (A9Z.below hb2 A9Z.lt)
                have B2 := Lib.hid (bel2 BZ hb2)
                have AN2 : At Z2 Z.heap.size 39 #[.iface 45 (.pointer (some ⟨e0, 0, none⟩)), .int .i32 a1] := by rw [hZ2]; exact At.new _ _ _
                skip
                have r0 : Z2.cell? ⟨Z.heap.size, 0, none⟩ = some (.iface 45 (.pointer (some ⟨e0, 0, none⟩))) := by rw [AN2.cell]; rfl
                have r1 : Z2.cell? ⟨Z.heap.size, 1, none⟩ = some (.int .i32 a1) := by rw [AN2.cell]; rfl
                have rl := AN2.lt
                rw [← hZ2]
                clear hZ2 hb2 AN2
                clear hnc hp hkq hbl KZ BZ zZ A11 A8Z A9Z
                go_wp2_with fail
                refine (asCall e0 a1 Z2).mono ?_
                rintro e Y ⟨rfl, hbY⟩
                have E := Lib.hid (show CU w b m z8 (z8 + 1) a1 j s (.pointer (some ⟨e0, 0, none⟩)) Y from ⟨e0, true, .iface 33 (.pointer (some ⟨z35, 0, none⟩)), rfl, Lib.hid (N2.out.kq (Kq.of_below hbY)), Lib.hid (P2.out.below hbY), Lib.hid (A82.out.below hbY A82.out.lt), Lib.hid (A92.out.below hbY A92.out.lt), Lib.hid (bel2 B2.out hbY)⟩)
                clear hbY N2 P2 A82 A92 B2
                go_wp2_with fail
                go_meet
                exact E.out
              · obtain ⟨Z2, hZ2⟩ : ∃ Z2, Z2 = (Z.setCell ⟨V.heap.size, 0, none⟩ (.iface 45 (.pointer (some ⟨e0, 0, none⟩)))).setCell ⟨V.heap.size, 1, none⟩ (.int .i32 a1) := ⟨_, rfl⟩
                have ne8 : z8 ≠ V.heap.size := by omega
                have ne9 : z8 + 1 ≠ V.heap.size := by have := A9V.out.lt; omega
                have N2 := Lib.hid (show NC Z2 e0 a1 a1 (.iface 33 (.pointer (some ⟨z35, 0, none⟩))) s true from by rw [hZ2]; exact (hnc.set39 AN (by simp) 0 _).set39 (AN.set 0 _) (by simp) 1 _)
                have P2 := Lib.hid (show P1 Z2 w.heap.size b m a1 (j + 1) from by rw [hZ2]; exact (hp.set AN (by decide) (by omega) 0 _).set (AN.set 0 _) (by decide) (by omega) 1 _)
                have A82 := Lib.hid (show At Z2 z8 29 #[.int .i32 a1] from by rw [hZ2]; exact (A8Z.far (by simpa using ne8) _).far (by simpa using ne8) _)
                have A92 := Lib.hid (show At Z2 (z8 + 1) 58 #[.int .u32 0, .int .u32 0] from by rw [hZ2]; exact (A9Z.far (by simpa using ne9) _).far (by simpa using ne9) _)
                have B2 := Lib.hid (show Below w.heap.size w Z2 from by rw [hZ2]; exact (BZ.setCell (by simp; omega) _).setCell (by simp; omega) _)
                have AN2 : At Z2 V.heap.size 39 #[.iface 45 (.pointer (some ⟨e0, 0, none⟩)), .int .i32 a1] := by rw [hZ2]; exact (AN.set 0 _).set 1 _
                skip
                have r0 : Z2.cell? ⟨V.heap.size, 0, none⟩ = some (.iface 45 (.pointer (some ⟨e0, 0, none⟩))) := by rw [AN2.cell]; rfl
                have r1 : Z2.cell? ⟨V.heap.size, 1, none⟩ = some (.int .i32 a1) := by rw [AN2.cell]; rfl
                have rl := AN2.lt
                rw [← hZ2]
                clear hZ2 AN AN2 n0 n1 nf0 nf1 nl
                clear hnc hp hkq hbl KZ BZ zZ A11 A8Z A9Z
                go_wp2_with fail
                refine (asCall e0 a1 Z2).mono ?_
                rintro e Y ⟨rfl, hbY⟩
                have E := Lib.hid (show CU w b m z8 (z8 + 1) a1 j s (.pointer (some ⟨e0, 0, none⟩)) Y from ⟨e0, true, .iface 33 (.pointer (some ⟨z35, 0, none⟩)), rfl, Lib.hid (N2.out.kq (Kq.of_below hbY)), Lib.hid (P2.out.below hbY), Lib.hid (A82.out.below hbY A82.out.lt), Lib.hid (A92.out.below hbY A92.out.lt), Lib.hid (bel2 B2.out hbY)⟩)
                clear hbY N2 P2 A82 A92 B2
                go_wp2_with fail
                go_meet
                exact E.out
            · have e1 : (j : Int).tmod 2 = 1 := by rw [Int.tmod_eq_emod_of_nonneg j0]; omega
              have e2 : (j : Int) % 2 = 1 := by omega
              have HKC := Lib.hid (show ∀ W', Below V.heap.size V W' → Calls Tryd.prog 7 #[.pointer (some ⟨b, 0, none⟩), .agg #[.int .i32 a1], .agg #[.iface 33 (.pointer (some ⟨z35, 0, none⟩)), .int .i32 a1], .string s] W' (KCP w.heap.size b m a1 a1 j a1 (.iface 33 (.pointer (some ⟨z35, 0, none⟩))) s W') from fun W' hW' => zkeepC w.heap.size b m a1 a1 a1 j 33 (.pointer (some ⟨z35, 0, none⟩)) s W' hsz (by have := hW'.size; omega) (by have := hW'.size; omega) (IMV.out.below hW'))
              go_wp2_with fail
              go_region_held3 (fun w' => w'.cell? ⟨z35 + 1, 0, none⟩ = some (.iface 33 (.pointer (some ⟨z35, 0, none⟩))) ∧ w'.cell? ⟨z35 + 1, 1, none⟩ = some (.int .i32 a1) ∧ w'.cell? ⟨BN, off + j, none⟩ = some (.string s) ∧ w'.cell? ⟨z8, 0, none⟩ = some (.int .i32 a1)) (repeat' (first | (refine And.intro ?_ ?_) | with_reducible assumption | apply kAlloc | apply kDrew | (refine kSet ?_ (by omega)))) (first
                | (go_at_call 7; (with_reducible refine Calls.mono (HKC.out _ ((Below.refl _ _).drew)) ?_); rintro e Z ⟨x, e0, rfl, hx, hnc, hp, hkq, hbl⟩; have KZ : Kq V Z := (hkq); have BZ : Below w.heap.size w Z := ((BV.out.drew).trans hbl); have zZ := hbl.size; have zz : V.heap.size ≤ Z.heap.size := (by simp at zZ; omega); have A11 : At Z (z35 + 1) 39 #[.iface 33 (.pointer (some ⟨z35, 0, none⟩)), .int .i32 a1] := (H11.out.kq KZ (by decide) (by decide) (by decide)); have y0 : Z.cell? ⟨z35 + 1, 0, none⟩ = some (.iface 33 (.pointer (some ⟨z35, 0, none⟩))) := (by rw [A11.cell]; rfl); have y1 : Z.cell? ⟨z35 + 1, 1, none⟩ = some (.int .i32 a1) := (by rw [A11.cell]; rfl); have yN := HNM.out Z BZ; have A8Z : At Z z8 29 #[.int .i32 a1] := (A8V.out.kq KZ (by decide) (by decide) (by decide)); have A9Z : At Z (z8 + 1) 58 #[.int .u32 0, .int .u32 0] := (A9V.out.kq KZ (by decide) (by decide) (by decide)); have y8 : Z.cell? ⟨z8, 0, none⟩ = some (.int .i32 a1) := (by rw [A8Z.cell]; rfl))
                | (go_at_call 7; (with_reducible refine Calls.mono (HKC.out _ (((Below.refl _ _).alloc (Nat.le_refl _) _).drew)) ?_); rintro e Z ⟨x, e0, rfl, hx, hnc, hp, hkq, hbl⟩; have KZ : Kq V Z := (((Kq.refl V).alloc _).trans hkq); have BZ : Below w.heap.size w Z := (((BV.out.alloc lwV _).drew).trans hbl); have zZ := hbl.size; have zz : V.heap.size ≤ Z.heap.size := (by simp at zZ; omega); have A11 : At Z (z35 + 1) 39 #[.iface 33 (.pointer (some ⟨z35, 0, none⟩)), .int .i32 a1] := (H11.out.kq KZ (by decide) (by decide) (by decide)); have y0 : Z.cell? ⟨z35 + 1, 0, none⟩ = some (.iface 33 (.pointer (some ⟨z35, 0, none⟩))) := (by rw [A11.cell]; rfl); have y1 : Z.cell? ⟨z35 + 1, 1, none⟩ = some (.int .i32 a1) := (by rw [A11.cell]; rfl); have yN := HNM.out Z BZ; have A8Z : At Z z8 29 #[.int .i32 a1] := (A8V.out.kq KZ (by decide) (by decide) (by decide)); have A9Z : At Z (z8 + 1) 58 #[.int .u32 0, .int .u32 0] := (A9V.out.kq KZ (by decide) (by decide) (by decide)); have y8 : Z.cell? ⟨z8, 0, none⟩ = some (.int .i32 a1) := (by rw [A8Z.cell]; rfl); have AN : At Z V.heap.size 31 #[.nilIface, .int .i32 0] := ((At.new V 31 #[.nilIface, .int .i32 0]).kq hkq (by decide) (by decide) (by decide)); have n0 : Z.cell? ⟨V.heap.size, 0, none⟩ = some .nilIface := (by rw [AN.cell]; rfl); have n1 : Z.cell? ⟨V.heap.size, 1, none⟩ = some (.int .i32 0) := (by rw [AN.cell]; rfl); have nf0 := AN.frozen 0; have nf1 := AN.frozen 1; have nl := AN.lt))
              · obtain ⟨Z2, hZ2⟩ : ∃ Z2, Z2 = Z.alloc (.cells #[.iface 40 (.pointer (some ⟨x, 0, none⟩)), .int .i32 a1] 31) := ⟨_, rfl⟩
                have hb2 : Below Z.heap.size Z Z2 := by rw [hZ2]; exact (Below.refl _ _).alloc (Nat.le_refl _) _
                have N2 := Lib.hid (hnc.kq (Kq.of_below hb2))
                have P2 := Lib.hid (hp.below hb2)
                have A82 := Lib.hid (A8Z.below hb2 A8Z.lt)
                have A92 := Lib.hid (A9Z.below hb2 A9Z.lt)
                have B2 := Lib.hid (bel2 BZ hb2)
                have AN2 : At Z2 Z.heap.size 31 #[.iface 40 (.pointer (some ⟨x, 0, none⟩)), .int .i32 a1] := by rw [hZ2]; exact At.new _ _ _
                have hx2 := Lib.hid (hx.below hb2 hx.lt)
                have r0 : Z2.cell? ⟨Z.heap.size, 0, none⟩ = some (.iface 40 (.pointer (some ⟨x, 0, none⟩))) := by rw [AN2.cell]; rfl
                have r1 : Z2.cell? ⟨Z.heap.size, 1, none⟩ = some (.int .i32 a1) := by rw [AN2.cell]; rfl
                have rl := AN2.lt
                rw [← hZ2]
                clear hZ2 hb2 AN2
                clear hnc hp hkq hbl KZ BZ zZ A11 A8Z A9Z
                go_wp2_with fail
                refine (asSExpr x a1 Z2).mono ?_
                rintro e Y ⟨rfl, hbY⟩
                have hx3 := hx2.out.below hbY hx2.out.lt
                have g0 : Y.cell? ⟨x, 0, none⟩ = some (.iface 45 (.pointer (some ⟨e0, 0, none⟩))) := by rw [hx3.cell]; rfl
                have g1 : Y.cell? ⟨x, 1, none⟩ = some (.int .i32 a1) := by rw [hx3.cell]; rfl
                have gl := hx3.lt
                have N2 := Lib.hid (N2.out.kq (Kq.of_below hbY))
                have P2 := Lib.hid (P2.out.below hbY)
                have A82 := Lib.hid (A82.out.below hbY A82.out.lt)
                have A92 := Lib.hid (A92.out.below hbY A92.out.lt)
                have B2 := Lib.hid (bel2 B2.out hbY)
                clear hbY hx3 hx2 r0 r1
                go_wp2_with fail
                refine (asCall e0 a1 Y).mono ?_
                rintro e Y ⟨rfl, hbY⟩
                have E := Lib.hid (show CU w b m z8 (z8 + 1) a1 j s (.pointer (some ⟨e0, 0, none⟩)) Y from ⟨e0, false, .iface 33 (.pointer (some ⟨z35, 0, none⟩)), rfl, Lib.hid (N2.out.kq (Kq.of_below hbY)), Lib.hid (P2.out.below hbY), Lib.hid (A82.out.below hbY A82.out.lt), Lib.hid (A92.out.below hbY A92.out.lt), Lib.hid (bel2 B2.out hbY)⟩)
                clear hbY N2 P2 A82 A92 B2
                go_wp2_with fail
                go_meet
                exact E.out
              · obtain ⟨Z2, hZ2⟩ : ∃ Z2, Z2 = (Z.setCell ⟨V.heap.size, 0, none⟩ (.iface 40 (.pointer (some ⟨x, 0, none⟩)))).setCell ⟨V.heap.size, 1, none⟩ (.int .i32 a1) := ⟨_, rfl⟩
                have ne8 : z8 ≠ V.heap.size := by omega
                have ne9 : z8 + 1 ≠ V.heap.size := by have := A9V.out.lt; omega
                have N2 := Lib.hid (show NC Z2 e0 a1 a1 (.iface 33 (.pointer (some ⟨z35, 0, none⟩))) s false from by rw [hZ2]; exact (hnc.setT AN (by decide) (by decide) 0 _).setT (AN.set 0 _) (by decide) (by decide) 1 _)
                have P2 := Lib.hid (show P1 Z2 w.heap.size b m a1 (j + 1) from by rw [hZ2]; exact (hp.set AN (by decide) (by omega) 0 _).set (AN.set 0 _) (by decide) (by omega) 1 _)
                have A82 := Lib.hid (show At Z2 z8 29 #[.int .i32 a1] from by rw [hZ2]; exact (A8Z.far (by simpa using ne8) _).far (by simpa using ne8) _)
                have A92 := Lib.hid (show At Z2 (z8 + 1) 58 #[.int .u32 0, .int .u32 0] from by rw [hZ2]; exact (A9Z.far (by simpa using ne9) _).far (by simpa using ne9) _)
                have B2 := Lib.hid (show Below w.heap.size w Z2 from by rw [hZ2]; exact (BZ.setCell (by simp; omega) _).setCell (by simp; omega) _)
                have AN2 : At Z2 V.heap.size 31 #[.iface 40 (.pointer (some ⟨x, 0, none⟩)), .int .i32 a1] := by rw [hZ2]; exact (AN.set 0 _).set 1 _
                have hx2 := Lib.hid (show At Z2 x 44 #[.iface 45 (.pointer (some ⟨e0, 0, none⟩)), .int .i32 a1, .bool true] from by rw [hZ2]; have ne : x ≠ V.heap.size := atNe2 hx AN (by decide); exact (hx.far (by simpa using ne) _).far (by simpa using ne) _)
                have r0 : Z2.cell? ⟨V.heap.size, 0, none⟩ = some (.iface 40 (.pointer (some ⟨x, 0, none⟩))) := by rw [AN2.cell]; rfl
                have r1 : Z2.cell? ⟨V.heap.size, 1, none⟩ = some (.int .i32 a1) := by rw [AN2.cell]; rfl
                have rl := AN2.lt
                rw [← hZ2]
                clear hZ2 AN AN2 n0 n1 nf0 nf1 nl
                clear hnc hp hkq hbl KZ BZ zZ A11 A8Z A9Z
                go_wp2_with fail
                refine (asSExpr x a1 Z2).mono ?_
                rintro e Y ⟨rfl, hbY⟩
                have hx3 := hx2.out.below hbY hx2.out.lt
                have g0 : Y.cell? ⟨x, 0, none⟩ = some (.iface 45 (.pointer (some ⟨e0, 0, none⟩))) := by rw [hx3.cell]; rfl
                have g1 : Y.cell? ⟨x, 1, none⟩ = some (.int .i32 a1) := by rw [hx3.cell]; rfl
                have gl := hx3.lt
                have N2 := Lib.hid (N2.out.kq (Kq.of_below hbY))
                have P2 := Lib.hid (P2.out.below hbY)
                have A82 := Lib.hid (A82.out.below hbY A82.out.lt)
                have A92 := Lib.hid (A92.out.below hbY A92.out.lt)
                have B2 := Lib.hid (bel2 B2.out hbY)
                clear hbY hx3 hx2 r0 r1
                go_wp2_with fail
                refine (asCall e0 a1 Y).mono ?_
                rintro e Y ⟨rfl, hbY⟩
                have E := Lib.hid (show CU w b m z8 (z8 + 1) a1 j s (.pointer (some ⟨e0, 0, none⟩)) Y from ⟨e0, false, .iface 33 (.pointer (some ⟨z35, 0, none⟩)), rfl, Lib.hid (N2.out.kq (Kq.of_below hbY)), Lib.hid (P2.out.below hbY), Lib.hid (A82.out.below hbY A82.out.lt), Lib.hid (A92.out.below hbY A92.out.lt), Lib.hid (bel2 B2.out hbY)⟩)
                clear hbY N2 P2 A82 A92 B2
                go_wp2_with fail
                go_meet
                exact E.out
          case rest =>
            obtain ⟨e0, u, d, rfl, HNC, HP, H8, H9, HBX⟩ := hcut
            rename World => wx
            obtain ⟨i1, r1, q1, D1, v1, h1, h2, h3, h4, h5⟩ := HNC.out
            obtain ⟨va, vc, rfl, hrow⟩ := h5.read
            have HID := Lib.hid (fun W (hW : Below wx.heap.size wx W) => asIdent i1 a1 W (h2.below hW h2.lt))
            have hq0 : wx.cell? ⟨q1, 0, none⟩ = some (.slice va (rest s 0).length vc) := by rw [h4.cell]; rfl
            have HST := Lib.hid (fun W (hW : Below wx.heap.size wx W) => asString q1 a1 va (rest s 0).length vc W (kept hW hq0))
            have hlen : (rest s 0).length ≤ 2097152 := by
              have := rest_len s s.size 0 (by omega)
              omega
            have HZ16 := Lib.hid (fun W => z16 s W hsz)
            obtain ⟨nn, hnn⟩ : ∃ n, n = (rest s 0).length := ⟨_, rfl⟩
            rw [← hnn] at hlen HST hrow
            have HRW := Lib.hid hrow
            have HNN := Lib.hid hnn
            have H1 := Lib.hid h1
            have H3 := Lib.hid h3
            have c0 : wx.cell? ⟨e0, 0, none⟩ = some (.iface 199 (.pointer (some ⟨i1, 0, none⟩))) := by rw [h1.cell]; rfl
            have c1 : wx.cell? ⟨e0, 1, none⟩ = some (.int .i32 a1) := by rw [h1.cell]; rfl
            have c2 : wx.cell? ⟨e0, 2, none⟩ = some (.slice (some ⟨r1, 0, none⟩) 2 2) := by rw [h1.cell]; rfl
            have le := h1.lt
            have lb9 : z8 + 1 < wx.heap.size := H9.out.lt
            clear h1 h2 h3 h4 h5 hrow hq0 hnn HNC c11a c11b l11 c8 l8V cN lNV IMV BV A8V A9V H11 lbV lwV lb l8 l9
            go_wp2_with fail
            refine (HID.out _ (Below.refl _ _)).mono ?_
            rintro e wy ⟨rfl, hb1⟩
            go_upto_if 123 with (fail)
            obtain ⟨wz, hwz⟩ : ∃ W, W = wy.alloc (.cells #[.int .u32 0, .int .u32 0] 58) := ⟨_, rfl⟩
            have hbz : Below wx.heap.size wx wz := by rw [hwz]; exact hb1.alloc hb1.size _
            have B1 := Lib.hid hbz
            have A9z : At wz (z8 + 1) 58 #[.int .u32 0, .int .u32 0] := H9.out.below hbz lb9
            have A20 : At wz wy.heap.size 58 #[.int .u32 0, .int .u32 0] := by rw [hwz]; exact At.new _ _ _
            have zy := hb1.size
            have s0 := setSame A9z (i := 0) (v := .int .u32 0) rfl
            have s1 := setSame A9z (i := 1) (v := .int .u32 0) rfl
            have n0 : wz.cell? ⟨z8 + 1, 0, none⟩ = some (.int .u32 0) := by rw [A9z.cell]; rfl
            have n1 : wz.cell? ⟨z8 + 1, 1, none⟩ = some (.int .u32 0) := by rw [A9z.cell]; rfl
            have m0 : wz.cell? ⟨wy.heap.size, 0, none⟩ = some (.int .u32 0) := by rw [A20.cell]; rfl
            have m1 : wz.cell? ⟨wy.heap.size, 1, none⟩ = some (.int .u32 0) := by rw [A20.cell]; rfl
            have nf0 := A9z.frozen 0
            have nf1 := A9z.frozen 1
            have nl := A9z.lt
            have ml := A20.lt
            have A1 := H1.out.below hbz H1.out.lt
            have A3 := H3.out.below hbz H3.out.lt
            have c2z : wz.cell? ⟨e0, 2, none⟩ = some (.slice (some ⟨r1, 0, none⟩) 2 2) := by rw [A1.cell]; rfl
            have d2 : wz.cell? ⟨r1, 2, none⟩ = some (.iface 205 (.pointer (some ⟨q1, 0, none⟩))) := by rw [A3.cell]; rfl
            have d3 : wz.cell? ⟨r1, 3, none⟩ = some (.int .i32 a1) := by rw [A3.cell]; rfl
            have le' := A1.lt
            have lr' := A3.lt
            have yN := HNM.out wz (bel2 HBX.out hbz)
            have SN := Lib.hid (fun (W : World) (hW : Below wz.heap.size wz W) => HNM.out W (bel2 (bel2 HBX.out hbz) hW))
            rw [← hwz]
            clear hb1 c0 c1 c2 hbz A1 A3 A9z A20 le hwz
            by_cases hj0 : j = 0
            · have e1 : ((j : Int) == 0) = true := by simp [hj0]
              clear hj0
              go_wp2_with fail
              refine (HST.out wz B1.out).mono ?_
              rintro e w4 ⟨rfl, hb4⟩
              have B4 := Lib.hid (show Below wx.heap.size wx w4 from B1.out.trans (hb4.mono B1.out.size))
              have R4 := Lib.hid (HRW.out.below B4.out)
              have yN4 := SN.out w4 hb4
              have lN4 := World.block_lt_of_cell? _ _ yN4
              clear hb4 c2z d2 d3 yN n0 n1 m0 m1 nf0 nf1 s0 s1
              go_wp2_with fail
              refine (HZ16.out _).mono ?_
              rintro e w5 ⟨v2, rfl, how, hb5⟩
              obtain ⟨vb, vd, rfl, hr2⟩ := how.read
              rw [← HNN.out] at hr2
              have B5 := Lib.hid (B4.out.trans (hb5.mono B4.out.size))
              have HZE := Lib.hid (zeq nn _ va vb vc vd w5 (R4.out.below hb5) hr2 (by omega))
              rw [← HNN.out]
              clear hb5 how hr2 yN4 lN4
              go_wp2_with fail
              refine HZE.out.mono ?_
              rintro e w6 ⟨rfl, hb6⟩
              have B6 : Below wx.heap.size wx w6 := B5.out.trans (hb6.mono B5.out.size)
              have END := Lib.hid (show ST w b m c z8 (z8 + 1) a1 (j + 1) w6 from ⟨fun h => absurd h (by omega), fun _ => HP.out.below B6, H8.out.below B6 H8.out.lt, H9.out.below B6 H9.out.lt, bel2 HBX.out B6⟩)
              clear hb6 B6
              go_wp2_with fail
              go_roundg (gk - 1)
              case measure => omega
              case rel => exact ⟨j + 1, by omega, by go_num, END⟩
            · have e1 : ((j : Int) == 0) = false := by simp; omega
              clear hj0
              go_wp2_with fail
              refine (HST.out wz B1.out).mono ?_
              rintro e w4 ⟨rfl, hb4⟩
              have B4 := Lib.hid (show Below wx.heap.size wx w4 from B1.out.trans (hb4.mono B1.out.size))
              have R4 := Lib.hid (HRW.out.below B4.out)
              have yN4 := SN.out w4 hb4
              have lN4 := World.block_lt_of_cell? _ _ yN4
              clear hb4 c2z d2 d3 yN n0 n1 m0 m1 nf0 nf1 s0 s1
              go_wp2_with fail
              refine (HZ16.out _).mono ?_
              rintro e w5 ⟨v2, rfl, how, hb5⟩
              obtain ⟨vb, vd, rfl, hr2⟩ := how.read
              rw [← HNN.out] at hr2
              have B5 := Lib.hid (B4.out.trans (hb5.mono B4.out.size))
              have HZE := Lib.hid (zeq nn _ va vb vc vd w5 (R4.out.below hb5) hr2 (by omega))
              rw [← HNN.out]
              clear hb5 how hr2 yN4 lN4
              go_wp2_with fail
              refine HZE.out.mono ?_
              rintro e w6 ⟨rfl, hb6⟩
              have B6 : Below wx.heap.size wx w6 := B5.out.trans (hb6.mono B5.out.size)
              have END := Lib.hid (show ST w b m c z8 (z8 + 1) a1 (j + 1) w6 from ⟨fun h => absurd h (by omega), fun _ => HP.out.below B6, H8.out.below B6 H8.out.lt, H9.out.below B6 H9.out.lt, bel2 HBX.out B6⟩)
              clear hb6 B6
              go_wp2_with fail
              go_roundg (gk - 1)
              case measure => omega
              case rel => exact ⟨j + 1, by omega, by go_num, END⟩
        · have e : j = k := by omega
          subst e
          have HBL := Lib.hid HST.out.bl
          have HA9 := Lib.hid A9
          have a90 : wr.cell? ⟨z8 + 1, 0, none⟩ = some (.int .u32 0) := by rw [A9.cell]; rfl
          have a91 : wr.cell? ⟨z8 + 1, 1, none⟩ = some (.int .u32 0) := by rw [A9.cell]; rfl
          clear A8 A9
          by_cases hj0 : j = 0
          · obtain ⟨_, ⟨ga, gc, hp⟩, _⟩ := HST.out.p0 hj0
            have h106 := hp.2.1
            have SC := Lib.hid (symCount b 0 ga gc wr h106)
            have e1 : ((j : Int) == 0) = true := by simp [hj0]
            clear hp h106 HST hj0 a90 a91
            go_wp2_with fail
            refine SC.out.mono ?_
            rintro e w' ⟨rfl, rfl⟩
            go_wp2_with fail
            go_ret
            exact ⟨rfl, HBL.out⟩
          · have HP := Lib.hid (HST.out.p1 (by omega))
            have SC := Lib.hid (by
              obtain ⟨g, cap, cur, _, _, h106, _⟩ := HP.out
              exact symCount b 1 (some ⟨g, 0, none⟩) cap wr h106)
            have SN := Lib.hid (symName w.heap.size b m a1 j wr HP.out)
            have SU := Lib.hid (fun W hW => symUse w.heap.size b m a1 j W (HP.out.below (w' := W) hW))
            have e1 : ((j : Int) == 0) = false := by simp; omega
            have j0 : (0 : Int) ≤ (j : Int) := Int.natCast_nonneg _
            have nm1 := nm_ne
            clear HST hj0
            go_wp2_with fail
            refine SC.out.mono ?_
            rintro e w' ⟨rfl, rfl⟩
            go_wp2_with fail
            refine SN.out.mono ?_
            rintro e w2 ⟨rfl, hb2⟩
            have A9 := HA9.out.below hb2 HA9.out.lt
            have a90 : w2.cell? ⟨z8 + 1, 0, none⟩ = some (.int .u32 0) := by rw [A9.cell]; rfl
            have a91 : w2.cell? ⟨z8 + 1, 1, none⟩ = some (.int .u32 0) := by rw [A9.cell]; rfl
            have l9' := A9.lt
            have SU2 := Lib.hid (SU.out w2 hb2)
            have HB2 := Lib.hid (bel2 HBL.out hb2)
            clear hb2 A9 SU
            go_wp2_with fail
            refine SU2.out.mono ?_
            rintro e w3 ⟨rfl, hb3⟩
            have HB3 := Lib.hid (bel2 HB2.out hb3)
            clear hb3
            go_wp2_with fail
            go_ret
            exact ⟨by simp, HB3.out⟩
      
end Go.Proofs.YtlbkdflbhhbibaaDoor.fnKeepNameCallsShareOneRuntimeSymbol
