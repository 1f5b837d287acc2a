/- Proved here: the contract of spreadChainHolds. Conditions as stated. -/
import Derived.Test.YtjlmaingeobgeaaDoorOSD
import Derived.WalkKit
import Derived.WalkSpells
import Derived.WalkLawsBesides
import Derived.Lib.Hide
import Derived.Lib.SliceRun
import Derived.Deep.RegionWith
import Derived.OwnWalk
import Derived.Laws.OwnMore
import Derived.BigRegion
import Derived.Deep.RegionHeld3
import Derived.Carry
namespace Go.Proofs.YtjlmaingeobgeaaDoor
open Go.RowKit
set_option linter.unusedSimpArgs false
set_option linter.unusedVariables false

/-- The row of the spreads. -/
def SR (w : World) (sb N : Nat) (sp : Nat → Bool) : Prop := ∀ j, j < N → w.cell? ⟨sb, j, none⟩ = some (.bool (sp j))
def RL (D : Nat → Prop) (N : Nat) (sl : Bool) (q : Nat → Nat) (sp : Nat → Bool) (l : Int) (w : World) (i : Value) (wr : World) : Prop :=
  ∃ (y : Int) (m : Nat) (T : TypeId) (e : Nat), i = .int .i64 y ∧ Hid (y = (m : Int)) ∧ (1 ≤ y ∧ y ≤ (N : Int)) ∧ Hid (CH w D sl q sp l T e m) ∧ Hid (At wr (w.heap.size + 1) 35 #[.iface T (.pointer (some ⟨e, 0, none⟩)), .int .i32 l]) ∧ Hid (Below w.heap.size w wr)
def IL (t : Nat) (y : Int) (i : Value) : Prop := ∃ (z : Int), i = .int .i64 z ∧ ((t : Int) ≤ z ∧ z ≤ y)
set_option maxRecDepth 100000 in
set_option maxHeartbeats 8000000 in
theorem sChain (D : Nat → Prop) (sb nb N : Nat) (q : Nat → Nat) (sp : Nat → Bool) (sl : Bool) (l : Int) (T : TypeId) (e : Nat) (w : World) (hN : N ≤ 1000000) (hN0 : 0 < N) (h : CH w D sl q sp l T e N) (hn : NR w nb N q) (hs : SR w sb N sp) :
    Calls Tryd.prog 33 #[.agg #[.iface T (.pointer (some ⟨e, 0, none⟩)), .int .i32 l], .slice (some ⟨sb, 0, none⟩) N N, .slice (some ⟨nb, 0, none⟩) N N, .bool sl, .int .i32 l] w fun e w' => e = .returned (.bool true) ∧ Below w.heap.size w w' := by
  have HC0 := Lib.hid h
  have HN := Lib.hid hn
  have HS := Lib.hid hs
  have lsb := World.block_lt_of_cell? _ _ (hs 0 hN0)
  have lnb := World.block_lt_of_cell? _ _ (hn 0 hN0)
  have hNi : (0 : Int) < (N : Int) ∧ (N : Int) ≤ 1000000 := by omega
  obtain ⟨hNa, hNb⟩ := hNi
  clear h hn hs
  go_enter Tryd.func33, Tryd.ntmps33
  go_wp2_with fail
  have AX := Lib.hid (show At ((w.alloc (.cells #[.iface T (.pointer (some ⟨e, 0, none⟩)), .int .i32 l] 35)).alloc (.cells #[.iface T (.pointer (some ⟨e, 0, none⟩)), .int .i32 l] 35)) (w.heap.size + 1) 35 #[.iface T (.pointer (some ⟨e, 0, none⟩)), .int .i32 l] from by
    have := At.new (w.alloc (.cells #[.iface T (.pointer (some ⟨e, 0, none⟩)), .int .i32 l] 35)) 35 #[.iface T (.pointer (some ⟨e, 0, none⟩)), .int .i32 l]
    rwa [show (w.alloc (.cells #[.iface T (.pointer (some ⟨e, 0, none⟩)), .int .i32 l] 35)).heap.size = w.heap.size + 1 from by simp] at this)
  go_loopw [12] (fun i wr => RL D N sl q sp l w i wr) (fun i _ => (intOf i).toNat)
  case atStart => exact ⟨(N : Int), N, T, e, rfl, Lib.hid rfl, ⟨by omega, by omega⟩, HC0, AX, Lib.hid (((Below.refl _ _).alloc (Nat.le_refl _) _).alloc (by simp) _)⟩
  case round =>
    obtain ⟨y, m, T2, e2, rfl, HY, ⟨y1, yN⟩, HCH, HX, HB⟩ := hrel
    clear AX
    have yM : y ≤ 1000000 := by omega
    have zr := HB.out.size
    have lsr : sb < wr.heap.size := by omega
    have lnr : nb < wr.heap.size := by omega
    have x0 : wr.cell? ⟨w.heap.size + 1, 0, none⟩ = some (.iface T2 (.pointer (some ⟨e2, 0, none⟩))) := by rw [HX.out.cell]; rfl
    have x1 : wr.cell? ⟨w.heap.size + 1, 1, none⟩ = some (.int .i32 l) := by rw [HX.out.cell]; rfl
    have lx := HX.out.lt
    obtain ⟨u, hu⟩ : ∃ u, u = y - 1 := ⟨_, rfl⟩
    have HU := Lib.hid hu
    have hsub : y - 1 = u := hu.symm
    have hu0 : 0 ≤ u := by omega
    have huN : u < (N : Int) := by omega
    have huM : u ≤ 1000000 := by omega
    have hwr : IntKind.i64.wrap (y - 1) = u := by rw [hsub, IntKind.wrap_i64]; omega
    clear hu
    have sy : wr.cell? ⟨sb, u.toNat, none⟩ = some (.bool (sp (m - 1))) := by
      have e : u.toNat = m - 1 := by have := HY.out; have := HU.out; omega
      rw [e]
      exact kept HB.out (HS.out (m - 1) (by have := HY.out; omega))
    have ny : wr.cell? ⟨nb, u.toNat, none⟩ = some (.pointer (some ⟨q (m - 1), 0, none⟩)) := by
      have e : u.toNat = m - 1 := by have := HY.out; have := HU.out; omega
      rw [e]
      exact kept HB.out (HN.out (m - 1) (by have := HY.out; omega))
    have hch := HCH.out
    cases hch with
    | base _ _ g1 g2 =>
      have hsp := g1 (m - 1) (by have := HY.out; omega)
      rw [hsp] at sy
      have G1 := Lib.hid g1
      have G2 := Lib.hid g2
      clear g1 g2 hsp HCH HX ny
      go_wp2_with fail
      go_loop [16] (fun i => IL 0 y i) (fun i => (intOf i).toNat)
      case atStart => exact ⟨y, rfl, by omega, by omega⟩
      case round =>
        obtain ⟨z, rfl, z0, zy⟩ := hrel
        clear sy
        by_cases hz : z = 0
        · subst hz
          go_wp2_with fail
          refine (oHolds D _ nb N 0 m q sl l 0 y wr rfl (by have := HY.out; omega) (by have := HY.out; omega) hN ?_ (HN.out.below HB.out)).mono ?_
          · obtain ⟨a, v, c1, c2, c4, b1, b2, b3⟩ := G2.out
            exact ⟨a, v, c1, c2, c4, b1.below HB.out b1.lt, ownKeep0 b2 (fun g cs hg hat => HB.out.block g hat.lt), b3⟩
          · rintro e w2 ⟨rfl, hb2⟩
            have HF := Lib.hid (HB.out.trans (hb2.mono (by omega)))
            clear hb2
            go_wp2_with fail
            go_ret
            exact ⟨rfl, HF.out⟩
        · have hz1 : 0 < z := by omega
          have hz2 : z - 1 < (N : Int) := by omega
          have hz3 : 0 ≤ z - 1 := by omega
          have zM : z ≤ 1000000 := by omega
          have sz : wr.cell? ⟨sb, z.toNat - 1, none⟩ = some (.bool false) := by
            rw [show (Value.bool false) = .bool (sp (z.toNat - 1)) from by rw [G1.out _ (by have := HY.out; omega)]]
            exact kept HB.out (HS.out _ (by omega))
          clear hz
          go_wp2_with fail
          go_round
          case rel => exact ⟨z - 1, rfl, by omega, by omega⟩
          case measure => simp [intOf]; omega
    | spread _ n T3 e3 i ab g1 g2 g3 g4 =>
      have G4 := Lib.hid g4
      have G3 := Lib.hid (g3.below HB.out)
      rw [show n + 1 - 1 = n from by omega] at sy ny
      rw [g1] at sy
      obtain ⟨Q, hQ⟩ : ∃ Q, Q = q n := ⟨_, rfl⟩
      rw [← hQ] at ny G3
      clear g1 g2 g3 g4 hQ
      go_wp2_with fail
      refine (callOf e2 0 T3 212 (.pointer (some ⟨e3, 0, none⟩)) (.pointer (some ⟨Q, 0, none⟩)) l 0 l i ab wr G3.out).mono ?_
      rintro e w1 ⟨rfl, hb1⟩
      have z1 := hb1.size
      have X1 := HX.out.below hb1 lx
      have n1 := kept hb1 ny
      have HB1 := Lib.hid (HB.out.trans (hb1.mono zr))
      clear hb1 sy ny x0 x1 HX HCH
      go_wp2_with fail
      obtain ⟨V, hV⟩ : ∃ V, V = (w1.alloc (.cells #[.iface T3 (.pointer (some ⟨e3, 0, none⟩)), .int .i32 l] 35)).alloc (.cells #[.iface 212 (.pointer (some ⟨Q, 0, none⟩)), .int .i32 0] 35) := ⟨_, rfl⟩
      rw [← hV]
      have A13 : At V w1.heap.size 35 #[.iface T3 (.pointer (some ⟨e3, 0, none⟩)), .int .i32 l] := by rw [hV]; exact (At.new _ _ _).alloc _
      have A14 : At V (w1.heap.size + 1) 35 #[.iface 212 (.pointer (some ⟨Q, 0, none⟩)), .int .i32 0] := by
        rw [hV]
        have := At.new (w1.alloc (.cells #[.iface T3 (.pointer (some ⟨e3, 0, none⟩)), .int .i32 l] 35)) 35 #[.iface 212 (.pointer (some ⟨Q, 0, none⟩)), .int .i32 0]
        rwa [show (w1.alloc (.cells #[.iface T3 (.pointer (some ⟨e3, 0, none⟩)), .int .i32 l] 35)).heap.size = w1.heap.size + 1 from by simp] at this
      have hwV : Below w1.heap.size w1 V := by rw [hV]; exact ((Below.refl _ _).alloc (Nat.le_refl _) _).alloc (by simp) _
      have zV := hwV.size
      have XV := X1.below hwV X1.lt
      have HBV := Lib.hid (HB1.out.trans (hwV.mono HB1.out.size))
      have nV := kept hwV n1
      have v0 : V.cell? ⟨w1.heap.size + 1, 0, none⟩ = some (.iface 212 (.pointer (some ⟨Q, 0, none⟩))) := by rw [A14.cell]; rfl
      have v1 : V.cell? ⟨w1.heap.size + 1, 1, none⟩ = some (.int .i32 0) := by rw [A14.cell]; rfl
      have lv := A14.lt
      have lnV := World.block_lt_of_cell? _ _ nV
      have H13 := Lib.hid A13
      have HXV := Lib.hid XV
      have HL1 := Lib.hid X1.lt
      clear A13 A14 XV X1 hwV hV n1 HB1 hsub
      go_region_held3 (fun w' => w'.cell? ⟨w1.heap.size + 1, 0, none⟩ = some (.iface 212 (.pointer (some ⟨Q, 0, none⟩))) ∧ w'.cell? ⟨w1.heap.size + 1, 1, none⟩ = some (.int .i32 0) ∧ w'.cell? ⟨nb, u.toNat, none⟩ = some (.pointer (some ⟨Q, 0, none⟩))) (repeat' (first | (refine And.intro ?_ ?_) | with_reducible assumption | apply kAlloc | apply kDrew | (refine kSet ?_ (by omega)))) (first
        | (go_at_call 58; (with_reducible refine Calls.mono (asNum Q 0 _) ?_); rintro e Y ⟨rfl, hbY⟩; have hbV : Below V.heap.size V Y := (⟨hbY.os, hbY.tape, hbY.output, hbY.size, hbY.block⟩); have zY := hbV.size; have k0 := kept hbV v0; have k1 := kept hbV v1; have kn := kept hbV nV; have ly := World.block_lt_of_cell? _ _ k0; have lny := World.block_lt_of_cell? _ _ kn)
        | fail)
      all_goals
        have HBY := Lib.hid (HBV.out.trans (hbV.mono HBV.out.size))
        have Y13 := H13.out.below hbV H13.out.lt
        have YX := HXV.out.below hbV HXV.out.lt
        have t0 : Y.cell? ⟨w1.heap.size, 0, none⟩ = some (.iface T3 (.pointer (some ⟨e3, 0, none⟩))) := by rw [Y13.cell]; rfl
        have t1 : Y.cell? ⟨w1.heap.size, 1, none⟩ = some (.int .i32 l) := by rw [Y13.cell]; rfl
        have r0 : Y.cell? ⟨w.heap.size + 1, 0, none⟩ = some (.iface 312 (.pointer (some ⟨e2, 0, none⟩))) := by rw [YX.cell]; rfl
        have r1 : Y.cell? ⟨w.heap.size + 1, 1, none⟩ = some (.int .i32 l) := by rw [YX.cell]; rfl
        have fr0 := YX.frozen 0
        have fr1 := YX.frozen 1
        have lt13 := Y13.lt
        have ltX := YX.lt
        have ne : ¬ w1.heap.size = w.heap.size + 1 := by have := HL1.out; omega
        have ne' : ¬ w.heap.size + 1 = w1.heap.size := by have := HL1.out; omega
        have HYX := Lib.hid (YX.set 0 (.iface T3 (.pointer (some ⟨e3, 0, none⟩))) |>.set 1 (.int .i32 l))
        have HZ := Lib.hid (show Below w.heap.size w ((Y.setCell ⟨w.heap.size + 1, 0, none⟩ (.iface T3 (.pointer (some ⟨e3, 0, none⟩)))).setCell ⟨w.heap.size + 1, 1, none⟩ (.int .i32 l)) from (HBY.out.setCell (by simp) _).setCell (by simp) _)
        clear Y13 YX hbV k0 k1 kn v0 v1 nV
        by_cases hn0 : n = 0
        · have hy : (u == 0) = true := by have := HY.out; have := HU.out; simp; omega
          have hy' : u = 0 := by have := HY.out; have := HU.out; omega
          go_wp2_with fail
          obtain ⟨Z, hZ⟩ : ∃ Z, Z = (Y.setCell ⟨w.heap.size + 1, 0, none⟩ (.iface T3 (.pointer (some ⟨e3, 0, none⟩)))).setCell ⟨w.heap.size + 1, 1, none⟩ (.int .i32 l) := ⟨_, rfl⟩
          rw [← hZ] at HYX HZ ⊢
          clear hZ
          have g4 := G4.out
          subst hn0
          cases g4 with
          | base _ _ c1 c2 =>
            refine (oHolds D _ nb N 0 0 q sl l 0 0 Z rfl rfl (by omega) hN ?_ (HN.out.below HZ.out)).mono ?_
            · obtain ⟨a, v, c1, c2, c4, b1, b2, b3⟩ := c2
              exact ⟨a, v, c1, c2, c4, b1.below HZ.out b1.lt, ownKeep0 b2 (fun g cs hg hat => HZ.out.block g hat.lt), b3⟩
            · rintro e w2 ⟨rfl, hb2⟩
              have HF := Lib.hid (HZ.out.trans (hb2.mono HZ.out.size))
              clear hb2 t0 t1 r0 r1
              go_wp2_with fail
              go_ret
              exact ⟨rfl, HF.out⟩
          | props _ _ _ _ _ _ _ _ c0 => omega
        · have hy : (u == 0) = false := by have := HY.out; have := HU.out; simp; omega
          have hy' : ¬ u = 0 := by have := HY.out; have := HU.out; omega
          go_wp2_with fail
          go_roundw
          case rel => exact ⟨u, n, T3, e3, rfl, Lib.hid (by have := HY.out; have := HU.out; omega), ⟨by have := HY.out; have := HU.out; omega, by omega⟩, G4, HYX, HZ⟩
          case measure => simp [intOf]; have := HU.out; omega
    | props _ t _ T3 e3 eo i ab g0 g1 g1' g2 g3 g5 g4 =>
      obtain ⟨g00, g01⟩ := g0
      have hsp := g1' (m - 1) (by omega) (by omega)
      rw [hsp] at sy
      have G4 := Lib.hid g4
      have G5 := Lib.hid g5
      have G1 := Lib.hid g1
      have G1' := Lib.hid g1'
      have G3 := Lib.hid (g3.below HB.out)
      have ty : (t : Int) < y := by have := HY.out; omega
      clear g1 g1' g2 g3 g4 g5 hsp ny
      go_wp2_with fail
      go_loop [16] (fun i => IL t y i) (fun i => (intOf i).toNat)
      case atStart => exact ⟨y, rfl, by omega, by omega⟩
      case round =>
        obtain ⟨z, rfl, z0, zy⟩ := hrel
        clear sy
        have hz1 : 0 < z := by omega
        have hz2 : z - 1 < (N : Int) := by omega
        have hz3 : 0 ≤ z - 1 := by omega
        have zM : z ≤ 1000000 := by omega
        have sz : wr.cell? ⟨sb, z.toNat - 1, none⟩ = some (.bool (sp (z.toNat - 1))) := kept HB.out (HS.out _ (by omega))
        by_cases hz : z = (t : Int)
        · rw [show z.toNat - 1 = t - 1 from by omega, G1.out] at sz
          rw [show t - 1 = z.toNat - 1 from by omega] at sz
          have hzn : ¬ z = 0 := by omega
          have hze : (z == 0) = false := by simp; omega
          have HZT := Lib.hid hz
          clear hz
          go_wp2_with fail
          refine (callOf e2 1 T3 59 (.pointer (some ⟨e3, 0, none⟩)) (.pointer (some ⟨eo, 0, none⟩)) l l l i ab wr G3.out).mono ?_
          rintro e w1 ⟨rfl, hb1⟩
          have z1 := hb1.size
          have X1 := HX.out.below hb1 lx
          have HB1 := Lib.hid (HB.out.trans (hb1.mono zr))
          clear hb1 sz x0 x1 HX HCH
          go_wp2_with fail
          obtain ⟨V, hV⟩ : ∃ V, V = (w1.alloc (.cells #[.iface T3 (.pointer (some ⟨e3, 0, none⟩)), .int .i32 l] 35)).alloc (.cells #[.iface 59 (.pointer (some ⟨eo, 0, none⟩)), .int .i32 l] 35) := ⟨_, rfl⟩
          rw [← hV]
          have A13 : At V w1.heap.size 35 #[.iface T3 (.pointer (some ⟨e3, 0, none⟩)), .int .i32 l] := by rw [hV]; exact (At.new _ _ _).alloc _
          have A14 : At V (w1.heap.size + 1) 35 #[.iface 59 (.pointer (some ⟨eo, 0, none⟩)), .int .i32 l] := by
            rw [hV]
            have := At.new (w1.alloc (.cells #[.iface T3 (.pointer (some ⟨e3, 0, none⟩)), .int .i32 l] 35)) 35 #[.iface 59 (.pointer (some ⟨eo, 0, none⟩)), .int .i32 l]
            rwa [show (w1.alloc (.cells #[.iface T3 (.pointer (some ⟨e3, 0, none⟩)), .int .i32 l] 35)).heap.size = w1.heap.size + 1 from by simp] at this
          have hwV : Below w1.heap.size w1 V := by rw [hV]; exact ((Below.refl _ _).alloc (Nat.le_refl _) _).alloc (by simp) _
          have zV := hwV.size
          have XV := X1.below hwV X1.lt
          have HBV := Lib.hid (HB1.out.trans (hwV.mono HB1.out.size))
          have HCO := Lib.hid (show ∀ W, Below V.heap.size V W → Calls Tryd.prog 59 #[.agg #[.iface 59 (.pointer (some ⟨eo, 0, none⟩)), .int .i32 l], .slice (some ⟨nb, 0, none⟩) N N, .int .i64 z, .int .i64 y, .bool sl, .int .i32 l] W (fun e w' => e = .returned (.bool true) ∧ Below W.heap.size W w') from fun W hW => by
            have hWW : Below w.heap.size w W := HBV.out.trans (hW.mono HBV.out.size)
            refine oHolds D eo nb N t (m - t) q sl l z y W HZT.out (by have := HY.out; omega) (by have := HY.out; omega) hN ?_ (HN.out.below hWW)
            obtain ⟨a, v, c1, c2, c4, b1, b2, b3⟩ := G5.out
            exact ⟨a, v, c1, c2, c4, b1.below hWW b1.lt, ownKeep0 b2 (fun g cs hg hat => hWW.block g hat.lt), b3⟩)
          have v0 : V.cell? ⟨w1.heap.size + 1, 0, none⟩ = some (.iface 59 (.pointer (some ⟨eo, 0, none⟩))) := by rw [A14.cell]; rfl
          have v1 : V.cell? ⟨w1.heap.size + 1, 1, none⟩ = some (.int .i32 l) := by rw [A14.cell]; rfl
          have lv := A14.lt
          have H13 := Lib.hid A13
          have HXV := Lib.hid XV
          have HL1 := Lib.hid X1.lt
          clear A13 A14 XV X1 hwV hV HB1
          refine (HCO.out _ (Below.refl _ _)).mono ?_
          rintro e Y ⟨rfl, hbV⟩
          have zY := hbV.size
          have HBY := Lib.hid (HBV.out.trans (hbV.mono HBV.out.size))
          have Y13 := H13.out.below hbV H13.out.lt
          have YX := HXV.out.below hbV HXV.out.lt
          have t0 : Y.cell? ⟨w1.heap.size, 0, none⟩ = some (.iface T3 (.pointer (some ⟨e3, 0, none⟩))) := by rw [Y13.cell]; rfl
          have t1 : Y.cell? ⟨w1.heap.size, 1, none⟩ = some (.int .i32 l) := by rw [Y13.cell]; rfl
          have r0 : Y.cell? ⟨w.heap.size + 1, 0, none⟩ = some (.iface 312 (.pointer (some ⟨e2, 0, none⟩))) := by rw [YX.cell]; rfl
          have r1 : Y.cell? ⟨w.heap.size + 1, 1, none⟩ = some (.int .i32 l) := by rw [YX.cell]; rfl
          have fr0 := YX.frozen 0
          have fr1 := YX.frozen 1
          have lt13 := Y13.lt
          have ltX := YX.lt
          have ne : ¬ w1.heap.size = w.heap.size + 1 := by have := HL1.out; omega
          have ne' : ¬ w.heap.size + 1 = w1.heap.size := by have := HL1.out; omega
          have HYX := Lib.hid (YX.set 0 (.iface T3 (.pointer (some ⟨e3, 0, none⟩))) |>.set 1 (.int .i32 l))
          have HZ := Lib.hid (show Below w.heap.size w ((Y.setCell ⟨w.heap.size + 1, 0, none⟩ (.iface T3 (.pointer (some ⟨e3, 0, none⟩)))).setCell ⟨w.heap.size + 1, 1, none⟩ (.int .i32 l)) from (HBY.out.setCell (by simp) _).setCell (by simp) _)
          clear Y13 YX hbV v0 v1
          go_wp2_with fail
          go_roundw
          case rel => exact ⟨z, t, T3, e3, rfl, HZT, ⟨by omega, by omega⟩, G4, HYX, HZ⟩
          case measure => have := HZT.out; simp [intOf]; omega
        · have hz4 : (t : Int) < z := by omega
          rw [G1'.out _ (by omega) (by have := HY.out; omega)] at sz
          clear hz
          go_wp2_with fail
          go_round
          case rel => exact ⟨z - 1, rfl, by omega, by omega⟩
          case measure => simp [intOf]; omega
end Go.Proofs.YtjlmaingeobgeaaDoor
