/- Proved here: the contracts of selectLocalKind and scanStmts. Conditions as stated. -/
import Derived.Test.YtjnffbnipjkibaaDoorSCP
import Derived.Test.YtjnffbnipjkibaaDoorSCD
import Derived.WalkKit
import Derived.WalkSpells
import Derived.WalkLawsBesides
import Derived.Lib.Hide
import Derived.Lib.SliceRun
import Derived.Deep.RegionWith
import Derived.OwnWalk
import Derived.Laws.OwnMore
namespace Go.Proofs.YtjnffbnipjkibaaDoor
open Go.RowKit
set_option linter.unusedSimpArgs false
set_option linter.unusedVariables false

theorem hasF (cl : Bool) (w : World) : Calls Tryd.prog 35 #[.int .u64 (fOf cl), .int .u64 131072] w fun e w' => e = .returned (.bool cl) ∧ w = w' := by
  cases cl
  · show Calls Tryd.prog 35 #[.int .u64 0, .int .u64 131072] w _
    go_enter Tryd.func35, Tryd.ntmps35
    go_wp2_with fail
    go_ret
    exact ⟨rfl, rfl⟩
  · show Calls Tryd.prog 35 #[.int .u64 131072, .int .u64 131072] w _
    go_enter Tryd.func35, Tryd.ntmps35
    go_wp2_with fail
    go_ret
    exact ⟨rfl, rfl⟩
set_option maxRecDepth 100000 in
set_option maxHeartbeats 8000000 in
theorem slk (wrap pnil cl bundle minify : Bool) (b c : Nat) (v : Option Addr) (w : World) (hf : PF w b (fOf cl) (mOf bundle) minify wrap c) (hc : w.cell? ⟨c, 1, none⟩ = some (.pointer v)) (hv : v.isNone = pnil) :
    Calls Tryd.prog 39 #[.pointer (some ⟨b, 0, none⟩), .int .u8 2] w fun e w' => e = .returned (.int .u8 (kX wrap pnil cl bundle minify)) ∧ w = w' := by
  obtain ⟨h1, h2, h3, h4, h5⟩ := hf
  have lb := World.block_lt_of_cell? _ _ h1
  have lc := World.block_lt_of_cell? _ _ hc
  have HH := Lib.hid (fun W => hasF cl W)
  obtain ⟨f, hff⟩ : ∃ f, f = fOf cl := ⟨_, rfl⟩
  obtain ⟨mo, hmo⟩ : ∃ f, f = mOf bundle := ⟨_, rfl⟩
  rw [← hff] at h1 HH
  rw [← hmo] at h2
  have hb : (mo == 2) = bundle := by rw [hmo]; cases bundle <;> rfl
  clear hff hmo
  cases v with
  | none =>
    obtain rfl : pnil = true := by simpa using hv.symm
    clear hv
    cases cl <;> cases hbb : bundle <;> cases minify <;> cases wrap
    all_goals
      subst hbb
      go_enter Tryd.func39, Tryd.ntmps39
      go_wp2_with fail
      first
      | (refine (HH.out _).mono ?_
         rintro e w' ⟨rfl, rfl⟩
         go_wp2_with fail
         go_ret
         exact ⟨rfl, rfl⟩)
      | (go_ret
         exact ⟨rfl, rfl⟩)
  | some pv =>
    obtain rfl : pnil = false := by simpa using hv.symm
    clear hv
    cases cl <;> cases hbb : bundle <;> cases minify <;> cases wrap
    all_goals
      subst hbb
      go_enter Tryd.func39, Tryd.ntmps39
      go_wp2_with fail
      first
      | (refine (HH.out _).mono ?_
         rintro e w' ⟨rfl, rfl⟩
         go_wp2_with fail
         go_ret
         exact ⟨rfl, rfl⟩)
      | (go_ret
         exact ⟨rfl, rfl⟩)
/-- The context's first place, whether an 'await using' came. -/
def fu (zs ts : List Int) : Nat → Int
  | 0 => 0
  | k + 1 => if kz zs k ≠ 5 ∧ isU (kOf (kz zs k)) = true ∧ fu zs ts k = 0 then ts.getD k 0 else fu zs ts k
def aw (zs : List Int) : Nat → Bool
  | 0 => false
  | k + 1 => aw zs k || (decide (kz zs k ≠ 5) && kOf (kz zs k) == 4)
def kdAt (K : Int) (zs : List Int) (k i : Nat) : Int := if i < k ∧ isU (kOf (kz zs i)) = true then K else kOf (kz zs i)
theorem kdAt_end {K : Int} {zs : List Int} {k : Nat} : kdAt K zs k k = kOf (kz zs k) := by simp [kdAt]
theorem kdAt_ne {K : Int} {zs : List Int} {k i : Nat} (h : i ≠ k) : kdAt K zs (k + 1) i = kdAt K zs k i := by
  unfold kdAt
  have : (i < k + 1) = (i < k) := propext ⟨fun _ => by omega, fun _ => by omega⟩
  simp only [this]
theorem kdAt_no {K : Int} {zs : List Int} {k : Nat} (h : isU (kOf (kz zs k)) = false) : kdAt K zs (k + 1) k = kdAt K zs k k := by simp [kdAt, h]
theorem kdAt_yes {K : Int} {zs : List Int} {k : Nat} (h : isU (kOf (kz zs k)) = true) : kdAt K zs (k + 1) k = K := by simp [kdAt, h]
/-- Blocks of W0 but x and the locals are as they were. -/
def FrS (n x : Nat) (zs : List Int) (lo : Nat → Nat) (W0 wr : World) : Prop := ∀ q, q < W0.heap.size → q ≠ x → (∀ i, i < n → kz zs i ≠ 5 → q ≠ lo i) → wr.heap[q]? = W0.heap[q]?
theorem LV.congr {n : Nat} {zs : List Int} {lo : Nat → Nat} {kd kd' : Nat → Int} {w : World} (h : LV n zs lo kd w) (hk : ∀ i, i < n → kz zs i ≠ 5 → kd' i = kd i) : LV n zs lo kd' w := fun i hi h5 => by rw [hk i hi h5]; exact h i hi h5
def SX (n x B : Nat) (zs ts : List Int) (lo : Nat → Nat) (K s0 s1 : Int) (k : Nat) (W0 wr : World) : Prop := LV n zs lo (kdAt K zs k) wr ∧ At wr x 53 #[.int .i32 (fu zs ts k), .int .u32 s0, .int .u32 s1, .bool (aw zs k)] ∧ FrS n x zs lo W0 wr ∧ Below B W0 wr
def SR (n x B : Nat) (zs ts : List Int) (lo : Nat → Nat) (K s0 s1 : Int) (W0 : World) (i : Value) (wr : World) : Prop :=
  ∃ k : Nat, k ≤ n ∧ i = .int .i64 k ∧ Hid (SX n x B zs ts lo K s0 s1 k W0 wr)
theorem SX.below {n x B : Nat} {zs ts : List Int} {lo : Nat → Nat} {K s0 s1 : Int} {k : Nat} {W0 wr wr' : World} (h : SX n x B zs ts lo K s0 s1 k W0 wr) (hB : B ≤ W0.heap.size) (hlo : ∀ i, i < n → lo i < W0.heap.size) (hb : Below wr.heap.size wr wr') : SX n x B zs ts lo K s0 s1 k W0 wr' := by
  obtain ⟨h1, h2, h3, h4⟩ := h
  have z := h4.size
  exact ⟨h1.keep (fun i hi => ⟨hb.block _ (by have := hlo i hi; omega), hb.block _ (by have := hlo i hi; omega)⟩), h2.below hb h2.lt, fun q hq h5 h6 => (hb.block q (by omega)).trans (h3 q hq h5 h6), h4.trans (hb.mono (by omega))⟩
theorem SX.skip {n x B : Nat} {zs ts : List Int} {lo : Nat → Nat} {K s0 s1 : Int} {k : Nat} {W0 wr : World} (h : SX n x B zs ts lo K s0 s1 k W0 wr) (hs : kz zs k = 5 ∨ isU (kOf (kz zs k)) = false) : SX n x B zs ts lo K s0 s1 (k + 1) W0 wr := by
  obtain ⟨h1, h2, h3, h4⟩ := h
  have e1 : fu zs ts (k + 1) = fu zs ts k := by
    rcases hs with hs | hs <;> simp [fu, hs]
  have e2 : aw zs (k + 1) = aw zs k := by
    rcases hs with hs | hs
    · simp [aw, hs]
    · have : ¬ (kOf (kz zs k) = 4) := fun e => by rw [e] at hs; simp [isU] at hs
      simp [aw, this]
  refine ⟨h1.congr (fun i hi h5 => ?_), by rw [e1, e2]; exact h2, h3, h4⟩
  by_cases e : i = k
  · subst e
    rcases hs with hs | hs
    · exact absurd hs h5
    · exact kdAt_no hs
  · exact kdAt_ne e
theorem atNeAt {w : World} {a b : Nat} {t t' : TypeId} {cs cs' : Array Value} (h : At w a t cs) (h' : At w b t' cs') (ht : t ≠ t') : a ≠ b := by
  intro e
  subst e
  unfold At at h h'
  rw [h] at h'
  simp only [Option.some.injEq, Obj.cells.injEq] at h'
  exact ht h'.2.1
theorem SX.use {n x B : Nat} {zs ts : List Int} {lo : Nat → Nat} {K s0 s1 : Int} {k : Nat} {W0 wr wa wb : World} (h : SX n x B zs ts lo K s0 s1 k W0 wr) (hk : k < n) (h5 : kz zs k ≠ 5) (hU : isU (kOf (kz zs k)) = true) (hB : B ≤ W0.heap.size) (hlo : ∀ i, i < n → B ≤ lo i ∧ lo i < W0.heap.size) (hm : ∀ i j, i < j → j < n → lo i < lo j)
    (ha : At wa x 53 #[.int .i32 (fu zs ts (k + 1)), .int .u32 s0, .int .u32 s1, .bool (aw zs (k + 1))]) (hka : ∀ q, q < wr.heap.size → q ≠ x → wa.heap[q]? = wr.heap[q]?) (hba : Below B wr wa) (hb : Below wa.heap.size wa wb) : SX n x B zs ts lo K s0 s1 (k + 1) W0 (wb.setCell ⟨lo k, 1, none⟩ (.int .u8 K)) := by
  obtain ⟨h1, h2, h3, h4⟩ := h
  have z := h4.size
  have z1 := hba.size
  have z2 := hb.size
  have lk := hlo k hk
  have ak := (h1 k hk h5).1
  have nx : lo k ≠ x := atNeAt ak h2 (by decide)
  have KB : ∀ q, q < wr.heap.size → q ≠ x → q ≠ lo k → (wb.setCell ⟨lo k, 1, none⟩ (.int .u8 K)).heap[q]? = wr.heap[q]? := fun q hq hn hn2 => (Below.heap_setCell _ _ _ q (by simpa using hn2)).trans ((hb.block q (by omega)).trans (hka q hq hn))
  refine ⟨fun i hi hi5 => ?_, ?_, fun q hq hn hl => (KB q (by omega) hn (hl k hk h5)).trans (h3 q hq hn hl), (h4.trans (hba.trans (hb.mono (by omega)))).setCell (by simp; omega) _⟩
  · have ai := h1 i hi hi5
    have li := hlo i hi
    by_cases e : i = k
    · subst e
      have e1 : At wb (lo i) 65 _ := (hb.block (lo i) (by omega)).trans ((hka _ (by omega) nx).trans ai.1)
      refine ⟨?_, (KB _ (by omega) (atNeAt ai.2 h2 (by decide)) (atNeAt ai.2 ai.1 (by decide))).trans ai.2⟩
      rw [kdAt_yes hU]
      exact e1.set 1 (.int .u8 K)
    · have ne : lo i ≠ lo k := by
        rcases Nat.lt_or_gt_of_ne e with h | h
        · have := hm i k h hk; omega
        · have := hm k i h hi; omega
      rw [kdAt_ne e]
      exact ⟨(KB _ (by omega) (atNeAt ai.1 h2 (by decide)) ne).trans ai.1, (KB _ (by omega) (atNeAt ai.2 h2 (by decide)) (atNeAt ai.2 ak (by decide))).trans ai.2⟩
  · exact (ha.below hb ha.lt).far (by simpa using Ne.symm nx) _
theorem zd_get (d j r : Nat) (hj : j < d) (hr : r < 4) : (zd d)[j * 4 + r]? = (#[.nilIface, .int .i32 0, .nilIface, .int .i32 0] : Array Value)[r]? := by
  have h1 : j * 4 + r < d * 4 := by omega
  have h2 : (j * 4 + r) % 4 = r := by omega
  have h3 : r = 0 ∨ r = 1 ∨ r = 2 ∨ r = 3 := by omega
  have h4 : j * 4 < d * 4 := by omega
  have h5 : j * 4 % 4 = 0 := by omega
  rcases h3 with rfl | rfl | rfl | rfl <;> simp [zd, madeCells, Value.cells, h1, h2, h4, h5]
def DL (D : Nat) (Wa : World) (i : Value) (w2 : World) : Prop := ∃ j : Nat, j ≤ D ∧ i = .int .i64 j ∧ Hid (Below Wa.heap.size Wa w2)
def SEP (n x B : Nat) (zs ts : List Int) (lo : Nat → Nat) (K s0 s1 : Int) (W0 : World) (e : Ending) (w' : World) : Prop := e = .returned (.tuple #[]) ∧ SX n x B zs ts lo K s0 s1 n W0 w'
set_option maxRecDepth 100000 in
set_option maxHeartbeats 16000000 in
theorem scan (wrap pnil cl bundle minify : Bool) (n x B b c Rs : Nat) (v : Option Addr) (zs ts : List Int) (lo : Nat → Nat) (cs cl' : Array Value) (s0 s1 : Int) (W0 : World) (hn : n ≤ 4096) (hz : ∀ i, 0 ≤ zs.getD i 0 ∧ zs.getD i 0 ≤ 255)
    (hf : PF W0 b (fOf cl) (mOf bundle) minify wrap c) (hc : W0.cell? ⟨c, 1, none⟩ = some (.pointer v)) (hv : v.isNone = pnil) (hS : At W0 Rs 248 cs) (hCV : CV n cs cl' zs ts lo) (hLV : LV n zs lo (fun i => kOf (kz zs i)) W0) (hlo : ∀ i, i < n → B ≤ lo i ∧ lo i < W0.heap.size) (hm : ∀ i j, i < j → j < n → lo i < lo j) (hx : At W0 x 53 #[.int .i32 0, .int .u32 s0, .int .u32 s1, .bool false]) (hBx : B ≤ x)
    (hbB : b < B) (hcB : c < B) (hRB : Rs < B) (hB : B ≤ W0.heap.size) :
    Calls Tryd.prog 31 #[.pointer (some ⟨x, 0, none⟩), .pointer (some ⟨b, 0, none⟩), .slice (some ⟨Rs, 0, none⟩) n n] W0 (SEP n x B zs ts lo (kX wrap pnil cl bundle minify) s0 s1 W0) := by
  subst hv
  have HF := Lib.hid hf
  have HC := Lib.hid hc
  have HS := Lib.hid hS
  have HV := Lib.hid hCV
  have HLO := Lib.hid hlo
  have HM := Lib.hid hm
  have HKR := Lib.hid (kz_range hz)
  have HBB := Lib.hid hB
  have K0 := Lib.hid (show wrap = true → v.isNone = true → kX wrap v.isNone cl bundle minify = 0 from fun h1 h2 => by rw [h1, h2]; cases cl <;> simp [kX])
  have HSL := Lib.hid (fun (W : World) (hf : PF W b (fOf cl) (mOf bundle) minify wrap c) (hc : W.cell? ⟨c, 1, none⟩ = some (.pointer v)) => slk wrap v.isNone cl bundle minify b c v W hf hc rfl)
  obtain ⟨K, hK⟩ : ∃ K, K = kX wrap v.isNone cl bundle minify := ⟨_, rfl⟩
  rw [← hK] at K0 HSL ⊢
  have ST := Lib.hid (show SR n x B zs ts lo K s0 s1 W0 (.int .i64 0) W0 from ⟨0, Nat.zero_le _, rfl, Lib.hid ⟨hLV.congr (fun i _ _ => by simp [kdAt]), hx, fun q _ _ _ => rfl, Below.refl _ _⟩⟩)
  clear hf hc hS hCV hLV hlo hm hz hK hx hB
  go_enter Tryd.func31, Tryd.ntmps31
  go_wp2_with fail
  go_loopw [16] (fun i wr => SR n x B zs ts lo K s0 s1 W0 i wr) (fun i _ => n - (intOf i).toNat)
  case atStart => exact ST.out
  case round =>
    clear ST
    obtain ⟨k, hk, rfl, H⟩ := hrel
    by_cases hlt : k < n
    · have HA := H.out.2.2.2
      have zr := HA.size
      have zB := HBB.out
      have AS : At wr Rs 248 cs := (HA.block Rs hRB).trans HS.out
      obtain ⟨q1, q2, q3⟩ := HV.out k hlt
      obtain ⟨t, ht⟩ : ∃ t, t = ts.getD k 0 := ⟨_, rfl⟩
      rw [← ht] at q1
      have HT := Lib.hid ht
      clear ht
      have c1 : wr.cell? ⟨Rs, k * 2 + 1, none⟩ = some (.int .i32 t) := by rw [AS.cell]; exact q1
      have lR := AS.lt
      have k0 : (0 : Int) ≤ (k : Int) := Int.natCast_nonneg _
      have k1 : (k : Int) < (n : Int) := by omega
      by_cases h5 : kz zs k = 5
      · have c0 : wr.cell? ⟨Rs, k * 2, none⟩ = some (.iface 264 (.pointer (some ⟨lo k, 0, none⟩))) := by rw [AS.cell]; exact (q2 h5).1
        have DA := Lib.hid (show ∀ o, SX n x B zs ts lo K s0 s1 (k + 1) W0 (wr.alloc o) from fun o => (H.out.below HBB.out (fun i hi => (HLO.out i hi).2) ((Below.refl _ _).alloc (Nat.le_refl _) _)).skip (.inl h5))
        clear q1 q2 q3 HA AS H
        go_wp2_with fail
        go_roundw
        case rel => exact ⟨k + 1, by omega, by go_num, Lib.hid (DA.out _)⟩
        case measure => simp [intOf]; omega
      · have c0 : wr.cell? ⟨Rs, k * 2, none⟩ = some (.iface 60 (.pointer (some ⟨lo k, 0, none⟩))) := by rw [AS.cell]; exact (q3 h5).1
        obtain ⟨al, ad⟩ := H.out.1 k hlt h5
        rw [kdAt_end] at al
        obtain ⟨kk, hkk⟩ : ∃ x, x = kOf (kz zs k) := ⟨_, rfl⟩
        rw [← hkk] at al
        have kr := HKR.out k
        have kk4 : 0 ≤ kk ∧ kk ≤ 4 := by rw [hkk]; unfold kOf; repeat' split
                                         all_goals omega
        have HKK := Lib.hid hkk
        clear hkk
        have D0 : dz zs k ≤ 2 := by unfold dz; omega
        obtain ⟨D, hD⟩ : ∃ D, D = dz zs k := ⟨_, rfl⟩
        rw [← hD] at al ad D0
        clear hD
        obtain ⟨L, hL⟩ : ∃ L, L = lo k := ⟨_, rfl⟩
        have HL := Lib.hid hL
        rw [← hL] at c0 al ad
        have lL : B ≤ L ∧ L < W0.heap.size := by rw [hL]; exact HLO.out k hlt
        clear hL
        obtain ⟨L1, hL1⟩ : ∃ L1, L1 = L - 1 := ⟨_, rfl⟩
        rw [← hL1] at al ad
        clear hL1
        have m0 : wr.cell? ⟨L, 0, none⟩ = some (.slice (some ⟨L1, 0, none⟩) D D) := by rw [al.cell]; rfl
        have m1 : wr.cell? ⟨L, 1, none⟩ = some (.int .u8 kk) := by rw [al.cell]; rfl
        have lL2 := al.lt
        have HU := Lib.hid (fun W => isUsing kk W kk4.1 kk4.2)
        obtain ⟨u, hu⟩ : ∃ u, u = isU kk := ⟨_, rfl⟩
        rw [← hu] at HU
        cases u with
        | false =>
          have DA := Lib.hid (show ∀ o, SX n x B zs ts lo K s0 s1 (k + 1) W0 (wr.alloc o) from fun o => (H.out.below HBB.out (fun i hi => (HLO.out i hi).2) ((Below.refl _ _).alloc (Nat.le_refl _) _)).skip (.inr (by rw [← HKK.out]; exact hu.symm)))
          clear q1 q2 q3 HA AS H al ad hu
          go_wp2_with fail
          refine (HU.out _).mono ?_
          rintro e w' ⟨rfl, rfl⟩
          go_wp2_with fail
          go_roundw
          case rel => exact ⟨k + 1, by omega, by go_num, Lib.hid (DA.out _)⟩
          case measure => simp [intOf]; omega
        | true =>
          have HU1 := Lib.hid (show isU (kOf (kz zs k)) = true from by rw [← HKK.out]; exact hu.symm)
          have k34 : kk = 3 ∨ kk = 4 := by
            have h := hu.symm
            simp [isU] at h
            omega
          have ax := H.out.2.1
          have fx0 := ax.frozen 0
          have fx3 := ax.frozen 3
          have lx := ax.lt
          have nxL : ¬ x = L := fun e => atNeAt al ax (by decide) e.symm
          have nLx : ¬ L = x := fun e => nxL e.symm
          obtain ⟨f0, hf0⟩ : ∃ f, f = fu zs ts k := ⟨_, rfl⟩
          obtain ⟨aw0, haw0⟩ : ∃ f, f = aw zs k := ⟨_, rfl⟩
          rw [← hf0, ← haw0] at ax
          have x0 : wr.cell? ⟨x, 0, none⟩ = some (.int .i32 f0) := by rw [ax.cell]; rfl
          have x3 : wr.cell? ⟨x, 3, none⟩ = some (.bool aw0) := by rw [ax.cell]; rfl
          have HX := Lib.hid ax
          have HF0 := Lib.hid hf0
          have HAW := Lib.hid haw0
          have HAD := Lib.hid ad
          have HAL := Lib.hid al
          clear q1 q2 q3 HA AS al ad hu ax hf0 haw0
          by_cases hf : f0 = 0
          · have HFX := Lib.hid hf
            have hf1 : (f0 == 0) = true := by simp [hf]
            rcases k34 with hkv | hkv
            · have HKV := Lib.hid hkv
              have hk1 : (kk == 4) = false := by rw [hkv]; rfl
              clear hkv hf
              go_wp2_with fail
              refine (HU.out _).mono ?_
              rintro e w' ⟨rfl, rfl⟩
              go_wp2_with fail
              obtain ⟨Wa, hWa⟩ : ∃ W, W = (wr.setCell ⟨x, 0, none⟩ (.int .i32 t)).alloc (.cells #[.iface 60 (.pointer (some ⟨L, 0, none⟩)), .int .i32 t] 248) := ⟨_, rfl⟩
              rw [← hWa]
              have za : Wa.heap.size = wr.heap.size + 1 := by rw [hWa]; simp [World.setCell]
              have za1 : wr.heap.size + 1 ≤ Wa.heap.size := by omega
              have AXa : At Wa x 53 #[.int .i32 (fu zs ts (k + 1)), .int .u32 s0, .int .u32 s1, .bool (aw zs (k + 1))] := by
                have e1 : fu zs ts (k + 1) = t := by have hf := HFX.out; rw [HF0.out] at hf; simp only [fu]; rw [if_pos ⟨h5, HU1.out, hf⟩, HT.out]
                have e2 : aw zs (k + 1) = aw0 := by simp [aw, ← HKK.out, HKV.out, HAW.out]
                rw [e1, e2, hWa]
                exact ((HX.out.set 0 (.int .i32 t))).alloc _
              have hka : ∀ q, q < wr.heap.size → q ≠ x → Wa.heap[q]? = wr.heap[q]? := fun q hq hn => by
                  rw [hWa, Below.heap_alloc _ _ q (by simpa [World.setCell] using hq)]
                  rw [Below.heap_setCell _ _ _ q (by simpa using hn)]
              have hba : Below B wr Wa := by rw [hWa]; exact ((Below.refl _ _).setCell (by simp; omega) _).alloc (by (try simp [World.setCell]); omega) _
              have HUSE := Lib.hid (show ∀ wb, Below Wa.heap.size Wa wb → SX n x B zs ts lo K s0 s1 (k + 1) W0 (wb.setCell ⟨L, 1, none⟩ (.int .u8 K)) from fun wb hb => by rw [HL.out]; exact H.out.use hlt h5 HU1.out HBB.out HLO.out HM.out AXa hka hba hb)
              have ALa : At Wa L 65 #[.slice (some ⟨L1, 0, none⟩) D D, .int .u8 kk, .bool false, .bool false] := (hka L (by omega) nLx).trans HAL.out
              have ADa : At Wa L1 75 (zd D) := (hka L1 HAD.out.lt (fun e => atNeAt HAD.out HX.out (by decide) e)).trans HAD.out
              have HALa := Lib.hid ALa
              have HADa := Lib.hid ADa
              have HBa := Lib.hid (show Below B W0 Wa from H.out.2.2.2.trans hba)
              have lLa := ALa.lt
              have zza : W0.heap.size ≤ Wa.heap.size := by omega
              clear hWa za AXa hka hba ALa ADa H HX HAL HAD c0 c1 m0 m1 x0 x3 fx0 fx3
              go_loopw [58] (fun i w2 => DL D Wa i w2) (fun i _ => D - (intOf i).toNat)
              case atStart => exact ⟨0, Nat.zero_le _, rfl, Lib.hid (Below.refl _ _)⟩
              case round =>
                obtain ⟨j, hj, rfl, HB2⟩ := hrel
                have AL2 := HALa.out.below HB2.out lLa
                by_cases hjd : j < D
                · have AD2 := HADa.out.below HB2.out HADa.out.lt
                  have d0 : wr.cell? ⟨L1, j * 4, none⟩ = some .nilIface := by rw [AD2.cell]; exact zd_get D j 0 hjd (by omega)
                  have d1 : wr.cell? ⟨L1, j * 4 + 1, none⟩ = some (.int .i32 0) := by rw [AD2.cell]; exact zd_get D j 1 hjd (by omega)
                  have d2 : wr.cell? ⟨L1, j * 4 + 2, none⟩ = some .nilIface := by rw [AD2.cell]; exact zd_get D j 2 hjd (by omega)
                  have d3 : wr.cell? ⟨L1, j * 4 + 3, none⟩ = some (.int .i32 0) := by rw [AD2.cell]; exact zd_get D j 3 hjd (by omega)
                  have lD := AD2.lt
                  have j0 : (0 : Int) ≤ (j : Int) := Int.natCast_nonneg _
                  have j1 : (j : Int) < (D : Int) := by omega
                  have HB3 := Lib.hid (show ∀ o, Below Wa.heap.size Wa (wr.alloc o) from fun o => HB2.out.alloc HB2.out.size o)
                  clear AL2 AD2 HB2
                  go_wp2_with fail
                  go_roundw
                  case rel => exact ⟨j + 1, by omega, by go_num, Lib.hid (HB3.out _)⟩
                  case measure => simp [intOf]; omega
                · have e : j = D := by omega
                  subst e
                  have BB2 := HBa.out.trans (HB2.out.mono (by omega))
                  have PF2 : PF wr b (fOf cl) (mOf bundle) minify wrap c := by
                    obtain ⟨h1, h2, h3, h4, h5⟩ := HF.out
                    exact ⟨(BB2.cell (p := ⟨b, 23, none⟩) hbB).trans h1, (BB2.cell (p := ⟨b, 34, none⟩) hbB).trans h2, (BB2.cell (p := ⟨b, 41, none⟩) hbB).trans h3, (BB2.cell (p := ⟨b, 352, none⟩) hbB).trans h4, (BB2.cell (p := ⟨b, 104, none⟩) hbB).trans h5⟩
                  have SC2 : wr.cell? ⟨c, 1, none⟩ = some (.pointer v) := (BB2.cell (p := ⟨c, 1, none⟩) hcB).trans HC.out
                  have CALL := Lib.hid (HSL.out wr PF2 SC2)
                  obtain ⟨p23, p34, p41, p352, p104⟩ := PF2
                  have lb := World.block_lt_of_cell? _ _ p352
                  have lc := World.block_lt_of_cell? _ _ SC2
                  have m1 : wr.cell? ⟨L, 1, none⟩ = some (.int .u8 kk) := by rw [AL2.cell]; rfl
                  have fm := AL2.frozen 1
                  have lm := AL2.lt
                  have HEND := Lib.hid (HUSE.out wr HB2.out)
                  clear AL2 HB2 BB2 HUSE p23 p34 p41
                  cases wrap with
                  | false =>
                    go_wp2_with fail
                    refine CALL.out.mono ?_
                    rintro e w' ⟨rfl, rfl⟩
                    go_wp2_with fail
                    go_roundw
                    case rel => exact ⟨k + 1, by omega, by go_num, HEND⟩
                    case measure => simp [intOf]; omega
                  | true =>
                    cases v with
                    | none =>
                      have HK0 := K0.out rfl rfl
                      subst HK0
                      clear K0
                      go_wp2_with fail
                      go_roundw
                      case rel => exact ⟨k + 1, by omega, by go_num, HEND⟩
                      case measure => simp [intOf]; omega
                    | some pv =>
                      go_wp2_with fail
                      refine CALL.out.mono ?_
                      rintro e w' ⟨rfl, rfl⟩
                      go_wp2_with fail
                      go_roundw
                      case rel => exact ⟨k + 1, by omega, by go_num, HEND⟩
                      case measure => simp [intOf]; omega
            · have HKV := Lib.hid hkv
              have hk1 : (kk == 4) = true := by rw [hkv]; rfl
              clear hkv hf
              go_wp2_with fail
              refine (HU.out _).mono ?_
              rintro e w' ⟨rfl, rfl⟩
              go_wp2_with fail
              obtain ⟨Wa, hWa⟩ : ∃ W, W = ((wr.setCell ⟨x, 0, none⟩ (.int .i32 t)).setCell ⟨x, 3, none⟩ (.bool true)).alloc (.cells #[.iface 60 (.pointer (some ⟨L, 0, none⟩)), .int .i32 t] 248) := ⟨_, rfl⟩
              rw [← hWa]
              have za : Wa.heap.size = wr.heap.size + 1 := by rw [hWa]; simp [World.setCell]
              have za1 : wr.heap.size + 1 ≤ Wa.heap.size := by omega
              have AXa : At Wa x 53 #[.int .i32 (fu zs ts (k + 1)), .int .u32 s0, .int .u32 s1, .bool (aw zs (k + 1))] := by
                have e1 : fu zs ts (k + 1) = t := by have hf := HFX.out; rw [HF0.out] at hf; simp only [fu]; rw [if_pos ⟨h5, HU1.out, hf⟩, HT.out]
                have e2 : aw zs (k + 1) = true := by simp [aw, h5, ← HKK.out, HKV.out]
                rw [e1, e2, hWa]
                exact (((HX.out.set 0 (.int .i32 t)).set 3 (.bool true))).alloc _
              have hka : ∀ q, q < wr.heap.size → q ≠ x → Wa.heap[q]? = wr.heap[q]? := fun q hq hn => by
                  rw [hWa, Below.heap_alloc _ _ q (by simpa [World.setCell] using hq)]
                  rw [Below.heap_setCell _ _ _ q (by simpa using hn)]
                  rw [Below.heap_setCell _ _ _ q (by simpa using hn)]
              have hba : Below B wr Wa := by rw [hWa]; exact (((Below.refl _ _).setCell (by simp; omega) _).setCell (by simp; omega) _).alloc (by (try simp [World.setCell]); omega) _
              have HUSE := Lib.hid (show ∀ wb, Below Wa.heap.size Wa wb → SX n x B zs ts lo K s0 s1 (k + 1) W0 (wb.setCell ⟨L, 1, none⟩ (.int .u8 K)) from fun wb hb => by rw [HL.out]; exact H.out.use hlt h5 HU1.out HBB.out HLO.out HM.out AXa hka hba hb)
              have ALa : At Wa L 65 #[.slice (some ⟨L1, 0, none⟩) D D, .int .u8 kk, .bool false, .bool false] := (hka L (by omega) nLx).trans HAL.out
              have ADa : At Wa L1 75 (zd D) := (hka L1 HAD.out.lt (fun e => atNeAt HAD.out HX.out (by decide) e)).trans HAD.out
              have HALa := Lib.hid ALa
              have HADa := Lib.hid ADa
              have HBa := Lib.hid (show Below B W0 Wa from H.out.2.2.2.trans hba)
              have lLa := ALa.lt
              have zza : W0.heap.size ≤ Wa.heap.size := by omega
              clear hWa za AXa hka hba ALa ADa H HX HAL HAD c0 c1 m0 m1 x0 x3 fx0 fx3
              go_loopw [58] (fun i w2 => DL D Wa i w2) (fun i _ => D - (intOf i).toNat)
              case atStart => exact ⟨0, Nat.zero_le _, rfl, Lib.hid (Below.refl _ _)⟩
              case round =>
                obtain ⟨j, hj, rfl, HB2⟩ := hrel
                have AL2 := HALa.out.below HB2.out lLa
                by_cases hjd : j < D
                · have AD2 := HADa.out.below HB2.out HADa.out.lt
                  have d0 : wr.cell? ⟨L1, j * 4, none⟩ = some .nilIface := by rw [AD2.cell]; exact zd_get D j 0 hjd (by omega)
                  have d1 : wr.cell? ⟨L1, j * 4 + 1, none⟩ = some (.int .i32 0) := by rw [AD2.cell]; exact zd_get D j 1 hjd (by omega)
                  have d2 : wr.cell? ⟨L1, j * 4 + 2, none⟩ = some .nilIface := by rw [AD2.cell]; exact zd_get D j 2 hjd (by omega)
                  have d3 : wr.cell? ⟨L1, j * 4 + 3, none⟩ = some (.int .i32 0) := by rw [AD2.cell]; exact zd_get D j 3 hjd (by omega)
                  have lD := AD2.lt
                  have j0 : (0 : Int) ≤ (j : Int) := Int.natCast_nonneg _
                  have j1 : (j : Int) < (D : Int) := by omega
                  have HB3 := Lib.hid (show ∀ o, Below Wa.heap.size Wa (wr.alloc o) from fun o => HB2.out.alloc HB2.out.size o)
                  clear AL2 AD2 HB2
                  go_wp2_with fail
                  go_roundw
                  case rel => exact ⟨j + 1, by omega, by go_num, Lib.hid (HB3.out _)⟩
                  case measure => simp [intOf]; omega
                · have e : j = D := by omega
                  subst e
                  have BB2 := HBa.out.trans (HB2.out.mono (by omega))
                  have PF2 : PF wr b (fOf cl) (mOf bundle) minify wrap c := by
                    obtain ⟨h1, h2, h3, h4, h5⟩ := HF.out
                    exact ⟨(BB2.cell (p := ⟨b, 23, none⟩) hbB).trans h1, (BB2.cell (p := ⟨b, 34, none⟩) hbB).trans h2, (BB2.cell (p := ⟨b, 41, none⟩) hbB).trans h3, (BB2.cell (p := ⟨b, 352, none⟩) hbB).trans h4, (BB2.cell (p := ⟨b, 104, none⟩) hbB).trans h5⟩
                  have SC2 : wr.cell? ⟨c, 1, none⟩ = some (.pointer v) := (BB2.cell (p := ⟨c, 1, none⟩) hcB).trans HC.out
                  have CALL := Lib.hid (HSL.out wr PF2 SC2)
                  obtain ⟨p23, p34, p41, p352, p104⟩ := PF2
                  have lb := World.block_lt_of_cell? _ _ p352
                  have lc := World.block_lt_of_cell? _ _ SC2
                  have m1 : wr.cell? ⟨L, 1, none⟩ = some (.int .u8 kk) := by rw [AL2.cell]; rfl
                  have fm := AL2.frozen 1
                  have lm := AL2.lt
                  have HEND := Lib.hid (HUSE.out wr HB2.out)
                  clear AL2 HB2 BB2 HUSE p23 p34 p41
                  cases wrap with
                  | false =>
                    go_wp2_with fail
                    refine CALL.out.mono ?_
                    rintro e w' ⟨rfl, rfl⟩
                    go_wp2_with fail
                    go_roundw
                    case rel => exact ⟨k + 1, by omega, by go_num, HEND⟩
                    case measure => simp [intOf]; omega
                  | true =>
                    cases v with
                    | none =>
                      have HK0 := K0.out rfl rfl
                      subst HK0
                      clear K0
                      go_wp2_with fail
                      go_roundw
                      case rel => exact ⟨k + 1, by omega, by go_num, HEND⟩
                      case measure => simp [intOf]; omega
                    | some pv =>
                      go_wp2_with fail
                      refine CALL.out.mono ?_
                      rintro e w' ⟨rfl, rfl⟩
                      go_wp2_with fail
                      go_roundw
                      case rel => exact ⟨k + 1, by omega, by go_num, HEND⟩
                      case measure => simp [intOf]; omega
          · have HFX := Lib.hid hf
            have hf1 : (f0 == 0) = false := by simp [hf]
            rcases k34 with hkv | hkv
            · have HKV := Lib.hid hkv
              have hk1 : (kk == 4) = false := by rw [hkv]; rfl
              clear hkv hf
              go_wp2_with fail
              refine (HU.out _).mono ?_
              rintro e w' ⟨rfl, rfl⟩
              go_wp2_with fail
              obtain ⟨Wa, hWa⟩ : ∃ W, W = wr.alloc (.cells #[.iface 60 (.pointer (some ⟨L, 0, none⟩)), .int .i32 t] 248) := ⟨_, rfl⟩
              rw [← hWa]
              have za : Wa.heap.size = wr.heap.size + 1 := by rw [hWa]; simp [World.setCell]
              have za1 : wr.heap.size + 1 ≤ Wa.heap.size := by omega
              have AXa : At Wa x 53 #[.int .i32 (fu zs ts (k + 1)), .int .u32 s0, .int .u32 s1, .bool (aw zs (k + 1))] := by
                have e1 : fu zs ts (k + 1) = f0 := by have hf := HFX.out; rw [HF0.out] at hf ⊢; simp only [fu]; rw [if_neg (fun h => hf h.2.2)]
                have e2 : aw zs (k + 1) = aw0 := by simp [aw, ← HKK.out, HKV.out, HAW.out]
                rw [e1, e2, hWa]
                exact (HX.out).alloc _
              have hka : ∀ q, q < wr.heap.size → q ≠ x → Wa.heap[q]? = wr.heap[q]? := fun q hq hn => by
                  rw [hWa, Below.heap_alloc _ _ q (by simpa [World.setCell] using hq)]
              have hba : Below B wr Wa := by rw [hWa]; exact (Below.refl _ _).alloc (by (try simp [World.setCell]); omega) _
              have HUSE := Lib.hid (show ∀ wb, Below Wa.heap.size Wa wb → SX n x B zs ts lo K s0 s1 (k + 1) W0 (wb.setCell ⟨L, 1, none⟩ (.int .u8 K)) from fun wb hb => by rw [HL.out]; exact H.out.use hlt h5 HU1.out HBB.out HLO.out HM.out AXa hka hba hb)
              have ALa : At Wa L 65 #[.slice (some ⟨L1, 0, none⟩) D D, .int .u8 kk, .bool false, .bool false] := (hka L (by omega) nLx).trans HAL.out
              have ADa : At Wa L1 75 (zd D) := (hka L1 HAD.out.lt (fun e => atNeAt HAD.out HX.out (by decide) e)).trans HAD.out
              have HALa := Lib.hid ALa
              have HADa := Lib.hid ADa
              have HBa := Lib.hid (show Below B W0 Wa from H.out.2.2.2.trans hba)
              have lLa := ALa.lt
              have zza : W0.heap.size ≤ Wa.heap.size := by omega
              clear hWa za AXa hka hba ALa ADa H HX HAL HAD c0 c1 m0 m1 x0 x3 fx0 fx3
              go_loopw [58] (fun i w2 => DL D Wa i w2) (fun i _ => D - (intOf i).toNat)
              case atStart => exact ⟨0, Nat.zero_le _, rfl, Lib.hid (Below.refl _ _)⟩
              case round =>
                obtain ⟨j, hj, rfl, HB2⟩ := hrel
                have AL2 := HALa.out.below HB2.out lLa
                by_cases hjd : j < D
                · have AD2 := HADa.out.below HB2.out HADa.out.lt
                  have d0 : wr.cell? ⟨L1, j * 4, none⟩ = some .nilIface := by rw [AD2.cell]; exact zd_get D j 0 hjd (by omega)
                  have d1 : wr.cell? ⟨L1, j * 4 + 1, none⟩ = some (.int .i32 0) := by rw [AD2.cell]; exact zd_get D j 1 hjd (by omega)
                  have d2 : wr.cell? ⟨L1, j * 4 + 2, none⟩ = some .nilIface := by rw [AD2.cell]; exact zd_get D j 2 hjd (by omega)
                  have d3 : wr.cell? ⟨L1, j * 4 + 3, none⟩ = some (.int .i32 0) := by rw [AD2.cell]; exact zd_get D j 3 hjd (by omega)
                  have lD := AD2.lt
                  have j0 : (0 : Int) ≤ (j : Int) := Int.natCast_nonneg _
                  have j1 : (j : Int) < (D : Int) := by omega
                  have HB3 := Lib.hid (show ∀ o, Below Wa.heap.size Wa (wr.alloc o) from fun o => HB2.out.alloc HB2.out.size o)
                  clear AL2 AD2 HB2
                  go_wp2_with fail
                  go_roundw
                  case rel => exact ⟨j + 1, by omega, by go_num, Lib.hid (HB3.out _)⟩
                  case measure => simp [intOf]; omega
                · have e : j = D := by omega
                  subst e
                  have BB2 := HBa.out.trans (HB2.out.mono (by omega))
                  have PF2 : PF wr b (fOf cl) (mOf bundle) minify wrap c := by
                    obtain ⟨h1, h2, h3, h4, h5⟩ := HF.out
                    exact ⟨(BB2.cell (p := ⟨b, 23, none⟩) hbB).trans h1, (BB2.cell (p := ⟨b, 34, none⟩) hbB).trans h2, (BB2.cell (p := ⟨b, 41, none⟩) hbB).trans h3, (BB2.cell (p := ⟨b, 352, none⟩) hbB).trans h4, (BB2.cell (p := ⟨b, 104, none⟩) hbB).trans h5⟩
                  have SC2 : wr.cell? ⟨c, 1, none⟩ = some (.pointer v) := (BB2.cell (p := ⟨c, 1, none⟩) hcB).trans HC.out
                  have CALL := Lib.hid (HSL.out wr PF2 SC2)
                  obtain ⟨p23, p34, p41, p352, p104⟩ := PF2
                  have lb := World.block_lt_of_cell? _ _ p352
                  have lc := World.block_lt_of_cell? _ _ SC2
                  have m1 : wr.cell? ⟨L, 1, none⟩ = some (.int .u8 kk) := by rw [AL2.cell]; rfl
                  have fm := AL2.frozen 1
                  have lm := AL2.lt
                  have HEND := Lib.hid (HUSE.out wr HB2.out)
                  clear AL2 HB2 BB2 HUSE p23 p34 p41
                  cases wrap with
                  | false =>
                    go_wp2_with fail
                    refine CALL.out.mono ?_
                    rintro e w' ⟨rfl, rfl⟩
                    go_wp2_with fail
                    go_roundw
                    case rel => exact ⟨k + 1, by omega, by go_num, HEND⟩
                    case measure => simp [intOf]; omega
                  | true =>
                    cases v with
                    | none =>
                      have HK0 := K0.out rfl rfl
                      subst HK0
                      clear K0
                      go_wp2_with fail
                      go_roundw
                      case rel => exact ⟨k + 1, by omega, by go_num, HEND⟩
                      case measure => simp [intOf]; omega
                    | some pv =>
                      go_wp2_with fail
                      refine CALL.out.mono ?_
                      rintro e w' ⟨rfl, rfl⟩
                      go_wp2_with fail
                      go_roundw
                      case rel => exact ⟨k + 1, by omega, by go_num, HEND⟩
                      case measure => simp [intOf]; omega
            · have HKV := Lib.hid hkv
              have hk1 : (kk == 4) = true := by rw [hkv]; rfl
              clear hkv hf
              go_wp2_with fail
              refine (HU.out _).mono ?_
              rintro e w' ⟨rfl, rfl⟩
              go_wp2_with fail
              obtain ⟨Wa, hWa⟩ : ∃ W, W = (wr.setCell ⟨x, 3, none⟩ (.bool true)).alloc (.cells #[.iface 60 (.pointer (some ⟨L, 0, none⟩)), .int .i32 t] 248) := ⟨_, rfl⟩
              rw [← hWa]
              have za : Wa.heap.size = wr.heap.size + 1 := by rw [hWa]; simp [World.setCell]
              have za1 : wr.heap.size + 1 ≤ Wa.heap.size := by omega
              have AXa : At Wa x 53 #[.int .i32 (fu zs ts (k + 1)), .int .u32 s0, .int .u32 s1, .bool (aw zs (k + 1))] := by
                have e1 : fu zs ts (k + 1) = f0 := by have hf := HFX.out; rw [HF0.out] at hf ⊢; simp only [fu]; rw [if_neg (fun h => hf h.2.2)]
                have e2 : aw zs (k + 1) = true := by simp [aw, h5, ← HKK.out, HKV.out]
                rw [e1, e2, hWa]
                exact ((HX.out.set 3 (.bool true))).alloc _
              have hka : ∀ q, q < wr.heap.size → q ≠ x → Wa.heap[q]? = wr.heap[q]? := fun q hq hn => by
                  rw [hWa, Below.heap_alloc _ _ q (by simpa [World.setCell] using hq)]
                  rw [Below.heap_setCell _ _ _ q (by simpa using hn)]
              have hba : Below B wr Wa := by rw [hWa]; exact ((Below.refl _ _).setCell (by simp; omega) _).alloc (by (try simp [World.setCell]); omega) _
              have HUSE := Lib.hid (show ∀ wb, Below Wa.heap.size Wa wb → SX n x B zs ts lo K s0 s1 (k + 1) W0 (wb.setCell ⟨L, 1, none⟩ (.int .u8 K)) from fun wb hb => by rw [HL.out]; exact H.out.use hlt h5 HU1.out HBB.out HLO.out HM.out AXa hka hba hb)
              have ALa : At Wa L 65 #[.slice (some ⟨L1, 0, none⟩) D D, .int .u8 kk, .bool false, .bool false] := (hka L (by omega) nLx).trans HAL.out
              have ADa : At Wa L1 75 (zd D) := (hka L1 HAD.out.lt (fun e => atNeAt HAD.out HX.out (by decide) e)).trans HAD.out
              have HALa := Lib.hid ALa
              have HADa := Lib.hid ADa
              have HBa := Lib.hid (show Below B W0 Wa from H.out.2.2.2.trans hba)
              have lLa := ALa.lt
              have zza : W0.heap.size ≤ Wa.heap.size := by omega
              clear hWa za AXa hka hba ALa ADa H HX HAL HAD c0 c1 m0 m1 x0 x3 fx0 fx3
              go_loopw [58] (fun i w2 => DL D Wa i w2) (fun i _ => D - (intOf i).toNat)
              case atStart => exact ⟨0, Nat.zero_le _, rfl, Lib.hid (Below.refl _ _)⟩
              case round =>
                obtain ⟨j, hj, rfl, HB2⟩ := hrel
                have AL2 := HALa.out.below HB2.out lLa
                by_cases hjd : j < D
                · have AD2 := HADa.out.below HB2.out HADa.out.lt
                  have d0 : wr.cell? ⟨L1, j * 4, none⟩ = some .nilIface := by rw [AD2.cell]; exact zd_get D j 0 hjd (by omega)
                  have d1 : wr.cell? ⟨L1, j * 4 + 1, none⟩ = some (.int .i32 0) := by rw [AD2.cell]; exact zd_get D j 1 hjd (by omega)
                  have d2 : wr.cell? ⟨L1, j * 4 + 2, none⟩ = some .nilIface := by rw [AD2.cell]; exact zd_get D j 2 hjd (by omega)
                  have d3 : wr.cell? ⟨L1, j * 4 + 3, none⟩ = some (.int .i32 0) := by rw [AD2.cell]; exact zd_get D j 3 hjd (by omega)
                  have lD := AD2.lt
                  have j0 : (0 : Int) ≤ (j : Int) := Int.natCast_nonneg _
                  have j1 : (j : Int) < (D : Int) := by omega
                  have HB3 := Lib.hid (show ∀ o, Below Wa.heap.size Wa (wr.alloc o) from fun o => HB2.out.alloc HB2.out.size o)
                  clear AL2 AD2 HB2
                  go_wp2_with fail
                  go_roundw
                  case rel => exact ⟨j + 1, by omega, by go_num, Lib.hid (HB3.out _)⟩
                  case measure => simp [intOf]; omega
                · have e : j = D := by omega
                  subst e
                  have BB2 := HBa.out.trans (HB2.out.mono (by omega))
                  have PF2 : PF wr b (fOf cl) (mOf bundle) minify wrap c := by
                    obtain ⟨h1, h2, h3, h4, h5⟩ := HF.out
                    exact ⟨(BB2.cell (p := ⟨b, 23, none⟩) hbB).trans h1, (BB2.cell (p := ⟨b, 34, none⟩) hbB).trans h2, (BB2.cell (p := ⟨b, 41, none⟩) hbB).trans h3, (BB2.cell (p := ⟨b, 352, none⟩) hbB).trans h4, (BB2.cell (p := ⟨b, 104, none⟩) hbB).trans h5⟩
                  have SC2 : wr.cell? ⟨c, 1, none⟩ = some (.pointer v) := (BB2.cell (p := ⟨c, 1, none⟩) hcB).trans HC.out
                  have CALL := Lib.hid (HSL.out wr PF2 SC2)
                  obtain ⟨p23, p34, p41, p352, p104⟩ := PF2
                  have lb := World.block_lt_of_cell? _ _ p352
                  have lc := World.block_lt_of_cell? _ _ SC2
                  have m1 : wr.cell? ⟨L, 1, none⟩ = some (.int .u8 kk) := by rw [AL2.cell]; rfl
                  have fm := AL2.frozen 1
                  have lm := AL2.lt
                  have HEND := Lib.hid (HUSE.out wr HB2.out)
                  clear AL2 HB2 BB2 HUSE p23 p34 p41
                  cases wrap with
                  | false =>
                    go_wp2_with fail
                    refine CALL.out.mono ?_
                    rintro e w' ⟨rfl, rfl⟩
                    go_wp2_with fail
                    go_roundw
                    case rel => exact ⟨k + 1, by omega, by go_num, HEND⟩
                    case measure => simp [intOf]; omega
                  | true =>
                    cases v with
                    | none =>
                      have HK0 := K0.out rfl rfl
                      subst HK0
                      clear K0
                      go_wp2_with fail
                      go_roundw
                      case rel => exact ⟨k + 1, by omega, by go_num, HEND⟩
                      case measure => simp [intOf]; omega
                    | some pv =>
                      go_wp2_with fail
                      refine CALL.out.mono ?_
                      rintro e w' ⟨rfl, rfl⟩
                      go_wp2_with fail
                      go_roundw
                      case rel => exact ⟨k + 1, by omega, by go_num, HEND⟩
                      case measure => simp [intOf]; omega
    · have e : k = n := by omega
      subst e
      have HE := Lib.hid (show SEP k x B zs ts lo K s0 s1 W0 (.returned (.tuple #[])) wr from ⟨rfl, H.out⟩)
      clear H
      go_wp2_with fail
      go_end0
      exact HE.out
end Go.Proofs.YtjnffbnipjkibaaDoor
