/- Proved here: the walk of the law FnShouldKeepStmtsExactlyWhenHoistedDeclRemains, for every input. -/
import Derived.Test.YtppcfibhpgjnoaaSDB
import Derived.WalkKit
import Derived.WalkSpells
import Derived.WalkLawsBesides
import Derived.Lib.Hide
import Derived.Lib.SliceRun
import Derived.Deep.RegionWith
import Derived.OwnWalk
import Derived.Laws.OwnMore
import Derived.Deep.AppendLies
namespace Go.Proofs.Ytppcfibhpgjnoaa.fnShouldKeepStmtsExactlyWhenHoistedDeclRemains
open Go.RowKit
set_option linter.unusedSimpArgs false
set_option linter.unusedVariables false

set_option maxRecDepth 100000 in
theorem bytes_yes (a0 : Option Addr) (n0 c0 : Nat) (w : World) (h : n0 ≤ 1048576) :
    Calls Try.prog 12 #[.slice a0 n0 c0] w fun e w' => e = .returned (.bool true) ∧ w = w' := by
  go_enter Try.func12, Try.ntmps12
  go_wp2_with fail
  go_ret
  exact ⟨rfl, rfl⟩
set_option maxRecDepth 100000 in
theorem bytes_any (a0 : Option Addr) (n0 c0 : Nat) (w : World) (m0 : n0 ≤ maxLen) :
    ∃ b : Bool, Calls Try.prog 12 #[.slice a0 n0 c0] w fun e w' => e = .returned (.bool b) ∧ w = w' := by
  unfold maxLen at m0
  by_cases h : n0 ≤ 1048576
  · exact ⟨true, bytes_yes a0 n0 c0 w h⟩
  · refine ⟨false, ?_⟩
    have h2 : 1048576 < n0 := by omega
    go_enter Try.func12, Try.ntmps12
    go_wp2_with fail
    go_ret
    exact ⟨rfl, rfl⟩
theorem lenOf {w : World} {a : Option Addr} {len cap : Nat} {zs : List Int} (h : IsRow .u8 w a len cap zs) : len ≤ maxLen := by
  rcases h with ⟨_, rfl, _⟩ | ⟨x, rfl, hl, hm, hz, hcell, _⟩
  · unfold maxLen; omega
  · omega
theorem opsOf {w : World} {a : Option Addr} {len cap : Nat} {zs : List Int} (h : IsRow .u8 w a len cap zs) : Ops w.heap.size w a len zs := by
  intro hp
  rcases h with ⟨_, rfl, _⟩ | ⟨x, rfl, hl, hm, hz, hcell, _⟩
  · omega
  · obtain ⟨b, off, rfl⟩ := spot_none (hcell 0 (by omega))
    exact ⟨b, off, rfl, by have h0 := hcell 0 (by omega); rw [add_none] at h0; exact World.block_lt_of_cell? _ _ h0, fun i hi => by rw [← add_none]; exact hcell i (by omega)⟩
theorem bytesOf {w : World} {a : Option Addr} {len cap : Nat} {zs : List Int} (h : IsRow .u8 w a len cap zs) : ∀ i, 0 ≤ zs.getD i 0 ∧ zs.getD i 0 ≤ 255 := by
  intro i
  rcases h with ⟨_, rfl, _, rfl⟩ | ⟨x, rfl, hl, hm, hz, hcell, hw⟩
  · simp
  · by_cases hi : i < zs.length
    · exact wf_u8 (hw _ (by simp [List.getD, hi]))
    · simp [List.getD, hi]

theorem zkl {B : Nat} {S : Nat → Prop} {w : World} {a : Option Addr} {n c : Nat} {k : Bool} (h : KL B S w (.slice a n c) k) (hB : B ≤ w.heap.size) : Calls Try.prog 14 #[.slice a n c] w (SKP B k w) := by
  have H := Lib.hid (h.at (fun _ _ => rfl) hB w (Below.refl _ _))
  clear h
  go_enter Try.func14, Try.ntmps14
  go_wp2_with fail
  refine H.out.mono ?_
  rintro e w1 ⟨rfl, y1, y2⟩
  have HF := Lib.hid (show SKP B k w (.returned (.bool k)) w1 from ⟨rfl, y1, y2⟩)
  clear y1 y2
  go_wp2_with fail
  go_ret
  exact HF.out
def MR (n : Nat) (w : World) (a : Option Addr) (zs : List Int) (s kp p1 : Value) (wr : World) : Prop := ∃ j p' : Nat, p1 = .int .i64 p' ∧ j ≤ p' ∧ LR w.heap.size n 0 n w a zs p1 s kp (.int .i64 j) wr
set_option maxRecDepth 100000 in
set_option maxHeartbeats 8000000 in
theorem walk (a0 : Option Addr) (len0 cap0 : Nat) (z0 : List Int) (w : World) (w0 : IsRow .u8 w a0 len0 cap0 z0) :
    Calls Try.prog 4 #[.slice a0 len0 cap0] w fun e w' => e = .returned (.bool true) ∧ Below w.heap.size w w' := by
  by_cases s0 : len0 ≤ 4096
  · have HO := Lib.hid (opsOf w0)
    have HZ := Lib.hid (bytesOf w0)
    clear w0
    obtain ⟨i0, hi0, hz0, hz1, hz2⟩ := info_parts infoST
    have I0 := Lib.hid hi0
    have I1 := Lib.hid hz0
    have I2 := Lib.hid hz1
    have I3 := Lib.hid hz2
    clear hi0 hz0 hz1 hz2
    go_enter Try.func4, Try.ntmps4
    go_wp2_with fail
    refine (bytes_yes _ _ _ _ (by omega)).mono ?_
    rintro e w' ⟨rfl, rfl⟩
    go_wp2_with fail
    go_loopw [3, 4, 5] (fun s kp p1 wr => MR len0 w a0 z0 s kp p1 wr) (fun _ _ p1 _ => len0 - (intOf p1).toNat)
    case atStart =>
      exact ⟨0, 0, rfl, Nat.le_refl _, 0, 0, w.heap.size, 0, 0, [], fun _ => false, fun _ => False, Nat.zero_le _, rfl, rfl, Nat.zero_le _, Nat.le_refl _, rfl, rfl, by omega, Lib.hid (by simp [anyB]), Lib.hid ⟨rfl, .inr ⟨w.heap.size, 0, #[], rfl, Nat.le_refl _, heap_alloc_new w _, Nat.le_refl _, by simp [maxLen], rfl, rfl⟩⟩, Lib.hid ⟨rfl, fun q hq => absurd hq (by omega)⟩, Lib.hid (fun k hk => hk.elim), Lib.hid (fun h => h), Lib.hid ((Below.refl _ _).alloc (Nat.le_refl _) _), Lib.hid (HO.out.keep ((Below.refl _ w).alloc (Nat.le_refl _) _))⟩
    case round =>
      obtain ⟨j0, p0, e0, hjp, j, p', g, c, kk, xs, ks, S, hj, hj0, e1, hp1, hp2, rfl, rfl, hkk, HA, HW, HT, HS, HG, HBW, HO1⟩ := hrel
      subst e0
      simp only [Value.int.injEq, true_and, Int.natCast_inj] at e1 hj0
      subst e1
      obtain rfl : j = j0 := hj0.symm
      by_cases hpn2 : p0 < len0
      · have HR := Lib.hid (show w.heap.size ≤ wr.heap.size from HBW.out.size)
        go_wp2_with fail
        refine (ds w.heap.size len0 cap0 a0 z0 s0 HZ.out len0 p0 _ (by omega) hp1 (HO1.out.keep ((Below.refl _ wr).alloc (by have := HR.out; omega) _)) (by have := HR.out; simp; omega)).mono ?_
        rintro e w2 ⟨d, l, p2, k2, S2, rfl, ⟨ty, bq, rfl⟩, hfi, hS2, hp3, hp4, hp5, hk2, hg2⟩
        have hA2 : At w2 wr.heap.size 33 #[.nilIface, .int .i32 0] := (hg2.block _ (by simp)).trans (At.new wr 33 _)
        have r0 : w2.cell? ⟨wr.heap.size, 0, none⟩ = some .nilIface := by rw [hA2.cell]; rfl
        have r1 : w2.cell? ⟨wr.heap.size, 1, none⟩ = some (.int .i32 0) := by rw [hA2.cell]; rfl
        have q0 := hA2.frozen 0
        have q1 := hA2.frozen 1
        have lr := hA2.lt
        have OWN := Lib.hid (show ∀ (u0 u1 : Value) (o : Obj), (((w2.setCell ⟨wr.heap.size, 0, none⟩ u0).setCell ⟨wr.heap.size, 1, none⟩ u1).alloc o).ownsRow w.heap.size 33 2 (.slice (some ⟨g, 0, none⟩) j c) j xs from fun u0 u1 o => by
          have zg := (World.ownsRow.lt HW.out g rfl).2
          refine World.ownsRow.alloc (ownKeep HW.out (fun k hk => ?_)) _
          simp only [Value.ownBlock, Option.some.injEq] at hk
          subst hk
          rw [Below.heap_setCell _ _ _ g (by simp; omega), Below.heap_setCell _ _ _ g (by simp; omega)]
          exact (hg2.block g (by simp; omega)).trans (Below.heap_alloc wr _ g zg))
        have NEW := Lib.hid (show ∀ (u0 u1 : Value), ∀ (q : Nat) (u : Value), ([.iface ty (.pointer (some ⟨bq, 0, none⟩)), .int .i32 l] : List Value)[q]? = some u → (((w2.setCell ⟨wr.heap.size, 0, none⟩ u0).setCell ⟨wr.heap.size, 1, none⟩ u1).alloc (.cells #[.iface ty (.pointer (some ⟨bq, 0, none⟩)), .int .i32 l] 33)).cell? ((⟨w2.heap.size, 0, none⟩ : Addr).add q) = some u from fun u0 u1 => by
          have hh := heap_alloc_new ((w2.setCell ⟨wr.heap.size, 0, none⟩ u0).setCell ⟨wr.heap.size, 1, none⟩ u1) (.cells #[.iface ty (.pointer (some ⟨bq, 0, none⟩)), .int .i32 l] 33)
          rw [show ((w2.setCell ⟨wr.heap.size, 0, none⟩ u0).setCell ⟨wr.heap.size, 1, none⟩ u1).heap.size = w2.heap.size from by simp [World.setCell]] at hh
          exact World.news_of_block (cs := #[.iface ty (.pointer (some ⟨bq, 0, none⟩)), .int .i32 l]) (t := 33) (fr := (0, 0)) hh)
        have ONE := Lib.hid (show ∀ u ∈ ([.iface ty (.pointer (some ⟨bq, 0, none⟩)), .int .i32 l] : List Value), u.oneCell' = true from by simp [Value.oneCell'])
        have STEP := Lib.hid (fun u0 u1 o w3 g' c' ho3 hg3 hlie => stepL (N := len0) (p := 0) (u0 := u0) (u1 := u1) (o := o) (w3 := w3) (g' := g') (c' := c') (Nat.le_refl _) HO.out (show j < len0 by omega) (Nat.zero_le _) (hp5 hpn2) hp4 hkk HA.out HW.out HT.out HS.out HG.out HBW.out hfi (by simpa using hS2) hk2 (hg2.mono (by simp)) ho3 hg3 hlie)
        have B1 : j + 1 ≤ maxLen := by unfold maxLen; omega
        have B2 : (j + 1) * 24 ≤ 140737488355328 := by omega
        have B3 := Lib.hid (show ∀ u0 u1 o, w.heap.size ≤ (((w2.setCell ⟨wr.heap.size, 0, none⟩ u0).setCell ⟨wr.heap.size, 1, none⟩ u1).alloc o).heap.size from fun _ _ _ => by have := HR.out; simp [World.setCell]; omega)
        have B4 := Lib.hid (show ∀ u0 u1 o, (((w2.setCell ⟨wr.heap.size, 0, none⟩ u0).setCell ⟨wr.heap.size, 1, none⟩ u1).alloc o).heap.size = w2.heap.size + 1 from fun _ _ _ => by simp [World.setCell])
        have B5 : kk + k2 ≤ 4096 := by omega
        have B6 := hp5 hpn2
        clear hfi hS2 hk2 hg2 hA2 HA HW HT HS HG HBW HO1
        go_wp2_with (with_reducible refine wpList_append_lies _ (o := ⟨some 30, _, _, _, _, _⟩) rfl _ _ 36 rfl w.heap.size 33 i0 _ 2 24 Try.underlying36 I0.out I1.out I2.out I3.out rfl (by omega) (.slice (some ⟨g, 0, none⟩) j c) j xs rfl (OWN.out _ _ _) ⟨w2.heap.size, 0, none⟩ 1 1 [.iface ty (.pointer (some ⟨bq, 0, none⟩)), .int .i32 l] rfl rfl (NEW.out _ _) ONE.out (by omega) B1 B2 (B3.out _ _ _) (w2.heap.size + 1) (B4.out _ _ _) ?_)
        intro g' c' w3 ho3 hg3 hlie hlt3
        have DA1 := Lib.hid (STEP.out _ _ _ _ _ _ ho3 hg3 hlie)
        clear ho3 hg3 hlie STEP OWN NEW
        go_wp2_with fail
        go_roundw
        case measure => simp [intOf]; omega
        case rel => exact ⟨j + 1, p2, rfl, by omega, DA1.out⟩
      · have zg := World.ownsRow.lt HW.out g rfl
        have bnd : ∀ k, (S k ∨ k = g) → w.heap.size ≤ k ∧ k < wr.heap.size := fun k hk => by
          rcases hk with hk | rfl
          · exact HS.out k hk
          · exact zg
        have KK := Lib.hid (klOf (B := w.heap.size) (S := fun k => S k ∨ k = g) (.inr rfl) HW.out (HT.out.more (fun _ h => .inl h) bnd) bnd (by omega))
        have HA' := Lib.hid HA.out
        have HR := Lib.hid (show w.heap.size ≤ wr.heap.size from HBW.out.size)
        clear HA HW HT HS HG HO1 bnd zg
        go_wp2_with fail
        refine (zkl KK.out HR.out).mono ?_
        rintro e w3 ⟨rfl, y1, _⟩
        have HE := Lib.hid (show Below w.heap.size w w3 from HBW.out.trans y1)
        rw [HA'.out]
        clear y1 KK HBW HA'
        by_cases hz : 0 < kk
        · have hz2 : (0 : Int) < (kk : Int) := by omega
          go_wp2_with fail
          go_ret
          exact ⟨by simp [hz], HE.out⟩
        · obtain rfl : kk = 0 := by omega
          go_wp2_with fail
          go_ret
          exact ⟨by simp, HE.out⟩
  · obtain ⟨b, hb⟩ := bytes_any a0 len0 cap0 w (lenOf w0)
    have m0 := lenOf w0
    unfold maxLen at m0
    have HB := Lib.hid hb
    have h1 : 4096 < len0 := by omega
    clear hb w0
    go_enter Try.func4, Try.ntmps4
    go_wp2_with fail
    refine HB.out.mono ?_
    rintro e w' ⟨rfl, rfl⟩
    cases b <;> (go_wp2_with fail; go_ret; exact ⟨rfl, Below.refl _ _⟩)
end Go.Proofs.Ytppcfibhpgjnoaa.fnShouldKeepStmtsExactlyWhenHoistedDeclRemains
