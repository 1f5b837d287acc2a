/- Proved here: the walk of the law FnPushScopeForParsePassInheritsStrictMode: it answers true. Conditions as stated. -/
import Derived.Test.YthgcchgpplblbaaFmtPSG
import Derived.WalkKit
import Derived.WalkSpells
import Derived.WalkLawsBesides
import Derived.Lib.Hide
import Derived.Lib.SliceRun
import Derived.Deep.RegionWith
import Derived.OwnWalk
import Derived.Laws.OwnMore
import Derived.BigRegion
import Derived.Carry
import Derived.Deep.AppendLies
import Derived.IntWalk
import Derived.Deep.Cut
namespace Go.Proofs.YthgcchgpplblbaaFmt
open Go.RowKit
set_option linter.unusedSimpArgs false
set_option linter.unusedVariables false

open PS
/-- The loop's state. -/
def REL (W0 : World) (lo B p : Nat) (md us base : Int) (len : Nat) (s11 s12 s13 s14 s15 : Value) (w : World) : Prop :=
  ∃ (i n ns : Nat) (E : List (Nat × Nat)) (cur : Option Addr) (ro : List Nat) (ks : List Int) (prev : Int) (a : Option Addr) (c : Nat) (xs : List Value) (sa : Option Addr) (sc : Nat) (ra : Option Addr) (rc : Nat) (ka : Option Addr) (kc : Nat),
    i ≤ len ∧ s11 = .slice sa ns sc ∧ s12 = .slice ra n rc ∧ s13 = .slice ka n kc ∧ s14 = .int .i32 prev ∧ s15 = .int .i64 i ∧ Hid (PT lo B p md us base i n E cur ro ks prev a c xs w) ∧ Hid (IT B E ro ks (.slice sa ns sc) (.slice ra n rc) (.slice ka n kc) w) ∧ Hid (ro.length = n ∧ ks.length = n ∧ Below lo W0 w ∧ E.length = ns ∧ ns ≤ i)
namespace PS
theorem PT.skip {lo B p : Nat} {md us base : Int} {i n : Nat} {E : List (Nat × Nat)} {cur : Option Addr} {ro : List Nat} {ks : List Int} {prev : Int} {a : Option Addr} {c : Nat} {xs : List Value} {w : World} (h : PT lo B p md us base i n E cur ro ks prev a c xs w) (hi : i < 65536) : PT lo B p md us base (i + 1) n E cur ro ks prev a c xs w :=
  ⟨by have := h.hn; omega, by omega, h.hB, h.hpB, h.hlo, h.lo0, h.pq, h.own, fun hn => ⟨(h.last hn).1, by have := (h.last hn).2; push_cast; omega⟩, h.ch.step (n := n) h.jlt (fun _ _ => rfl) (fun _ _ => rfl) (by omega) (KR.refl w) (fun _ _ _ _ => rfl) (fun _ hx => hx), h.jlt, h.bp, h.g0, h.g1⟩
end PS
theorem topFacts {ns m sc : Nat} (h : ns = m + 1) (hs : ns ≤ sc) (hb : ns ≤ 65536) : ((ns : Int) == 0) = false ∧ Value.int .i64 (wrap64 ((ns : Int) - 1)) = Value.int .i64 (m : Int) ∧ (0 : Int) ≤ (m : Int) ∧ (m : Int) < (ns : Int) ∧ (m : Int) ≤ (sc : Int) ∧ (0 : Int) < (ns : Int) := by
  refine ⟨?_, by rw [show (ns : Int) - 1 = (m : Int) by omega, IntWalk.wrap64_in _ (by omega)], by omega, by omega, by omega, by omega⟩
  rw [beq_eq_false_iff_ne]; omega
theorem info3 : (Tryf.prog.info? 3).map (fun i => (i.zero, i.size, i.bytes)) = some (some (.int .i64 0), 1, 8) := by kernel_rfl
theorem info27 : (Tryf.prog.info? 27).map (fun i => (i.zero, i.size, i.bytes)) = some (some (.int .u8 0), 1, 1) := by kernel_rfl
def OPS (W : World) (lo : Nat) (oa : Option Addr) (len : Nat) (z0 : List Int) : Prop := 0 < len → ∃ ob, oa = some ⟨ob, 0, none⟩ ∧ ob < lo ∧ ∀ k, k < len → W.cell? ⟨ob, k, none⟩ = some (.int .u8 (z0.getD k 0))
def COP (w : World) (len : Nat) (z0 : List Int) (e : Ending) (w' : World) : Prop := ∃ oa oc, e = .returned (.slice oa len oc) ∧ OPS w' w'.heap.size oa len z0 ∧ Below w.heap.size w w'
theorem cloneAny (a : Option Addr) (len cap : Nat) (zs : List Int) (w : World) (h : IsRow .u8 w a len cap zs) (hlen : len ≤ 1048576) : Calls Tryf.prog 14 #[.slice a len cap] w (COP w len zs) := by
  rcases h with ⟨rfl, rfl, rfl, rfl⟩ | ⟨x, rfl, hl, hm, hz, hcell, hwz⟩
  · refine (cloneO_nil w).mono ?_
    rintro e w' ⟨rfl, rfl⟩
    exact ⟨none, 0, rfl, fun h => absurd h (by omega), Below.refl _ _⟩
  · refine (cloneO_some x len cap zs w (by omega) hcell hlen).mono ?_
    rintro e w' ⟨cs, rfl, hat, hsz, hcs, hb⟩
    exact ⟨_, _, rfl, fun _ => ⟨w.heap.size, rfl, hat.lt, fun i hi => by rw [hat.cell]; exact hcs i hi⟩, hb⟩
namespace fnPushScopeForParsePassInheritsStrictMode
set_option maxRecDepth 100000 in
set_option maxHeartbeats 8000000 in
theorem walk (a0 : Option Addr) (len0 cap0 : Nat) (z0 : List Int) (a1 : Int) (a2 : Int) (a3 : Int) (w : World) (w0 : IsRow .u8 w a0 len0 cap0 z0) (w1 : (Lit.int .i32 a1).wf = true) (w2 : (Lit.int .u8 a2).wf = true) (w3 : (Lit.int .i32 a3).wf = true) (hg0 : w.cell? ⟨0, 0, none⟩ = some (.int .u32 4294967295)) (hg1 : w.cell? ⟨0, 1, none⟩ = some (.int .u32 4294967295)) :
    Calls Tryf.prog 4 #[.slice a0 len0 cap0, .int .i32 a1, .int .u8 a2, .int .i32 a3] w fun e w' => e = .returned (.bool true) ∧ Below w.heap.size w w' := by
  have hm0 : len0 ≤ 9223372036854775807 ∧ ∀ i, 0 ≤ z0.getD i 0 ∧ z0.getD i 0 ≤ 255 := by
    rcases w0 with ⟨_, rfl, _, rfl⟩ | ⟨x, _, hl, hm, hz, _, hw⟩
    · exact ⟨by omega, fun i => by simp⟩
    · refine ⟨by unfold maxLen at hm; omega, fun i => ?_⟩
      by_cases hi : i < z0.length
      · simp only [List.getD, List.getElem?_eq_getElem hi, Option.getD_some]
        exact wf_u8 (hw _ (List.getElem_mem hi))
      · simp [List.getD, List.getElem?_eq_none (Nat.le_of_not_lt hi)]
  have ha1 : -2147483648 ≤ a1 ∧ a1 ≤ 2147483647 := by
    have hmin : IntKind.i32.min = -2147483648 := rfl
    have hmax : IntKind.i32.max = 2147483647 := rfl
    simp only [Lit.wf, Bool.and_eq_true, decide_eq_true_eq] at w1
    omega
  obtain ⟨i0, hi0, hz0, hz1, hz2⟩ := info_parts info3
  have I0 := Lib.hid hi0
  have I1 := Lib.hid hz0
  have I2 := Lib.hid hz1
  have I3 := Lib.hid hz2
  clear hi0 hz0 hz1 hz2
  obtain ⟨j0, hi0, hz0, hz1, hz2⟩ := info_parts info27
  have J0 := Lib.hid hi0
  have J1 := Lib.hid hz0
  have J2 := Lib.hid hz1
  have J3 := Lib.hid hz2
  clear hi0 hz0 hz1 hz2
  have HZ := Lib.hid hm0.2
  have HA1 := Lib.hid ha1
  have HG0 := Lib.hid hg0
  have HG1 := Lib.hid hg1
  have HL0 := Lib.hid hm0.1
  have HSZ := Lib.hid (World.block_lt_of_cell? _ _ hg0)
  have HCL := Lib.hid w0
  have HBY := Lib.hid (zz57 a1 a2 a3 a0 len0 cap0 w hm0.1)
  have hl0 : (0 : Int) ≤ (len0 : Int) := Int.natCast_nonneg _
  clear hm0 ha1 hg0 hg1 w0 w1 w2 w3
  go_enter Tryf.func4, Tryf.ntmps4
  go_wp2_with fail
  refine HBY.out.mono ?_
  rintro e wz ⟨b, rfl, rfl⟩
  clear HBY
  cases b
  · go_wp2_with fail
    go_ret
    exact ⟨rfl, Below.refl _ _⟩
  by_cases hlen : (65536 : Int) < (len0 : Int)
  · go_wp2_with fail
    go_ret
    exact ⟨rfl, Below.refl _ _⟩
  by_cases hba : (2147418111 : Int) < a1
  · go_wp2_with fail
    go_ret
    exact ⟨rfl, Below.refl _ _⟩
  go_wp2_with fail
  refine (cloneAny a0 len0 cap0 z0 w HCL.out (by omega)).mono ?_
  rintro e V ⟨oa, oc, rfl, hops, hbv⟩
  have HOP := Lib.hid hops
  have HBV := Lib.hid hbv
  clear hops hbv HCL
  go_wp2_with fail
  refine (newP V).mono ?_
  rintro e W0 ⟨rfl, hpq, hb0, hs0⟩
  have HPQ := Lib.hid hpq
  have HB0 := Lib.hid hb0
  have HS0 := Lib.hid hs0
  have HLO := Lib.hid (show 0 < V.heap.size from by have := HSZ.out; have := HBV.out.size; simp at *; omega)
  have HW0 := Lib.hid (show W0.cell? ⟨0, 0, none⟩ = some (.int .u32 4294967295) ∧ W0.cell? ⟨0, 1, none⟩ = some (.int .u32 4294967295) from ⟨(hb0.cell (p := ⟨0, 0, none⟩) HLO.out).trans ((HBV.out.cell (p := ⟨0, 0, none⟩) HSZ.out).trans HG0.out), (hb0.cell (p := ⟨0, 1, none⟩) HLO.out).trans ((HBV.out.cell (p := ⟨0, 1, none⟩) HSZ.out).trans HG1.out)⟩)
  clear hpq hb0 hs0 HG0 HG1
  obtain ⟨p, hp⟩ : ∃ p, p = V.heap.size := ⟨_, rfl⟩
  rw [← hp] at HPQ HB0 HS0 HLO HOP ⊢
  have HVP := Lib.hid hp
  clear hp
  have hl1 : (len0 : Int) ≤ 65536 := by omega
  have HBA := Lib.hid (show a1 ≤ 2147418111 from by omega)
  clear hlen hba
  go_wp2_with fail
  go_loopw [11, 12, 13, 14, 15] (fun s11 s12 s13 s14 s15 wr => REL W0 p W0.heap.size p a2 a3 a1 len0 s11 s12 s13 s14 s15 wr) (fun _ _ _ _ i _ => len0 - (intOf i).toNat)
  case atStart =>
    refine ⟨0, 0, 0, [], none, [], [], 0, none, 0, [], none, 0, none, 0, none, 0, Nat.zero_le _, rfl, rfl, rfl, rfl, rfl, Lib.hid ⟨Nat.le_refl _, by omega, Nat.le_refl _, HS0.out, Nat.le_refl _, HLO.out, HPQ.out, ⟨by simp, .inl ⟨rfl, rfl⟩⟩, fun h => absurd h (by omega), .nil, (fun e he => by cases he), (fun e he => by cases he), HW0.out.1, HW0.out.2⟩, Lib.hid ⟨⟨by simp [stk], .inl ⟨rfl, rfl⟩⟩, ⟨by simp, .inl ⟨rfl, rfl⟩⟩, ⟨by simp, .inl ⟨rfl, rfl⟩⟩, fun g hg => by cases hg⟩, Lib.hid ⟨rfl, rfl, Below.refl _ _, rfl, Nat.le_refl _⟩⟩
  case round =>
    obtain ⟨i, n, ns, E, cur, ro, ks, prev, a, c, xs, sa, sc, ra, rc, ka, kc, hi, rfl, rfl, rfl, rfl, rfl, HPT, HIT, HX⟩ := hrel
    have hi0 : (0 : Int) ≤ (i : Int) := Int.natCast_nonneg _
    by_cases hlt : i < len0
    · have hlt1 : (i : Int) < (len0 : Int) := by omega
      obtain ⟨ob, rfl, hob, hcz⟩ := HOP.out (by omega)
      have c0 : wr.cell? ⟨ob, i, none⟩ = some (.int .u8 (z0.getD i 0)) := ((HX.out.2.2.1.cell (p := ⟨ob, i, none⟩) hob).trans (HB0.out.cell (p := ⟨ob, i, none⟩) hob)).trans (hcz i hlt)
      have lob := World.block_lt_of_cell? _ _ c0
      obtain ⟨v, hv⟩ : ∃ v, v = z0.getD i 0 := ⟨_, rfl⟩
      have hv0 := HZ.out i
      rw [← hv] at c0 hv0
      obtain ⟨hv0, hv1⟩ := hv0
      clear hv hcz hob
      have HI := Lib.hid (show i < 65536 by omega)
      by_cases h192 : 192 ≤ v
      · rcases E with _ | ⟨⟨Q, j⟩, rest⟩
        · obtain rfl : ns = 0 := by have := HX.out.2.2.2.1; simp at this; omega
          go_wp2_with fail
          go_roundw
          case rel => exact ⟨i + 1, n, 0, [], cur, ro, ks, prev, a, c, xs, sa, sc, ra, rc, ka, kc, by omega, rfl, rfl, rfl, rfl, by go_num, Lib.hid (HPT.out.skip HI.out), HIT, Lib.hid ⟨HX.out.1, HX.out.2.1, HX.out.2.2.1, HX.out.2.2.2.1, by have := HX.out.2.2.2.2; omega⟩⟩
          case measure => simp [intOf]; omega
        · have hnm : ns = rest.length + 1 := by have := HX.out.2.2.2.1; simp at this; omega
          obtain ⟨gs, rfl, hgB, lgs, hsc, csj⟩ := HIT.out.top hnm
          obtain ⟨m, hm⟩ : ∃ m, m = rest.length := ⟨_, rfl⟩
          rw [← hm] at csj
          obtain ⟨hns1, e2, m0, m1, m2, hnsp⟩ := topFacts (show ns = m + 1 by rw [hm]; exact hnm) hsc (Nat.le_trans HX.out.2.2.2.2 (Nat.le_of_lt HI.out))
          have hjn := HPT.out.jlt (Q, j) (by simp)
          simp only at hjn
          have HNM := Lib.hid (⟨hnm, hm⟩ : ns = rest.length + 1 ∧ m = rest.length)
          have HJN := Lib.hid hjn
          clear hnm hm hgB hsc
          have HPOP := Lib.hid (popAny p W0.heap.size p a2 a3 a1 i n Q j rest cur ro ks prev a c xs wr HPT.out HI.out)
          go_wp2_with fail
          refine HPOP.out.mono ?_
          rintro e w5 ⟨rfl, pv, rfl, hpt⟩
          have HPT5 := Lib.hid hpt
          obtain ⟨cp, hcp⟩ := HPT.out.pq.ty
          have HIT5 := Lib.hid ((HIT.out.pop (m := m) (by have := HNM.out; omega) (by have := HNM.out; omega)).stay (w' := wr.setCell ⟨p, 104, none⟩ (.pointer pv)) p 186 cp hcp (by decide) (by decide) (fun x hx => Below.heap_setCell _ _ _ x (by simpa using hx)))
          have HB5 := Lib.hid (HX.out.2.2.1.setCell (p := ⟨p, 104, none⟩) (Nat.le_refl _) (.pointer pv))
          clear hpt hcp HPT HPOP csj c0
          go_wp2_with fail
          go_roundw
          case rel => exact ⟨i + 1, n, m, rest, pv, ro, ks, prev, a, c, xs, some ⟨gs, 0, none⟩, sc, ra, rc, ka, kc, by omega, rfl, rfl, rfl, rfl, by go_num, HPT5, HIT5, Lib.hid ⟨HX.out.1, HX.out.2.1, HB5.out, by have := HNM.out; omega, by have := HNM.out; have := HX.out.2.2.2.2; omega⟩⟩
          case measure => simp [intOf]; omega
      · obtain ⟨loc, hloc⟩ : ∃ loc, loc = a1 + (i : Int) := ⟨_, rfl⟩
        have l1 : Value.int .i32 (IntKind.i32.wrap (i : Int)) = .int .i32 (i : Int) := by rw [IntWalk.i32_in _ (by omega)]
        have l2 : Value.int .i32 (IntKind.i32.wrap (a1 + (i : Int))) = .int .i32 loc := by rw [hloc, IntWalk.i32_in _ (by have := HA1.out; have := HBA.out; omega)]
        have HLOC := Lib.hid hloc
        clear hloc
        rcases E with _ | ⟨⟨Q, j⟩, rest⟩
        · obtain rfl : ns = 0 := by have := HX.out.2.2.2.1; simp at this; omega
          by_cases h8 : (v % 12) = 8
          · have h8b : ((v % 12) == 8) = true := by simp [h8]
            clear h8
            go_wp2_with fail
            go_roundw
            case rel => exact ⟨i + 1, n, 0, [], cur, ro, ks, prev, a, c, xs, sa, sc, ra, rc, ka, kc, by omega, rfl, rfl, rfl, rfl, by go_num, Lib.hid (HPT.out.skip HI.out), HIT, Lib.hid ⟨HX.out.1, HX.out.2.1, HX.out.2.2.1, HX.out.2.2.2.1, by have := HX.out.2.2.2.2; omega⟩⟩
            case measure => simp [intOf]; omega
          · have h8b : ((v % 12) == 8) = false := by rw [beq_eq_false_iff_ne]; exact h8
            have HPU := Lib.hid (pushAny p W0.heap.size p a2 a3 a1 i n [] cur ro ks prev a c xs wr HPT.out (v % 12) (by have := HA1.out; have := HBA.out; omega) (fun h => absurd h h8))
            have HLP := Lib.hid (show 0 < n → prev < loc from fun h => by have := (HPT.out.last h).2; rw [HLOC.out]; exact this)
            rw [← HLOC.out] at HPU
            go_wp2_with fail
            refine HPU.out.mono ?_
            intro e w5 hq
            clear c0
            have he := hq.1
            subst he
            obtain ⟨a', c', mb, xs', hms⟩ := MS.start HPT.out HI.out HX.out.2.2.1 (by rw [← HLOC.out]; exact hq)
            obtain ⟨s, hs⟩ : ∃ s, s = wr.heap.size + 1 + 1 := ⟨_, rfl⟩
            rw [← hs] at hms
            have HMS := Lib.hid hms
            have HIT5 := Lib.hid (HIT.out.keep hq.frame)
            have HNB := Lib.hid (show n ≤ 65536 ∧ 0 ≤ 65536 from by have := HPT.out.hn; have := HX.out.2.2.2.2; have := HI.out; omega)
            clear hms hs hq HPU HPT HIT
            have HIT := HIT5
            clear HIT5
            have HOWw6 := Lib.hid (show w5.ownsRow W0.heap.size 3 1 (.slice ra n rc) n (ro.map (fun (j : Nat) => Value.int .i64 (j : Int))) from by have h := HIT.out.orr; rw [HX.out.1] at h; exact h)
            go_wp2_with (with_reducible refine wpList_append_lies _ (o := ⟨some 108, _, _, _, _, _⟩) rfl _ _ 63 rfl W0.heap.size 3 i0 _ 1 8 Tryf.underlying63 I0.out I1.out I2.out I3.out rfl (by decide) (.slice ra n rc) n (ro.map (fun (j : Nat) => Value.int .i64 (j : Int))) rfl (World.ownsRow.alloc HOWw6.out _) ⟨w5.heap.size, 0, none⟩ 1 1 [.int .i64 (n : Int)] rfl rfl ?nw108 ?ho108 (by decide) ?hb108 ?hc108 ?hd108 _ rfl ?_)
            try (case nw108 => exact World.news_of_block (cs := #[.int .i64 (n : Int)]) (t := 3) (fr := (0, 0)) (heap_alloc_new w5 _))
            try (case ho108 => simp [Value.oneCell'])
            try (case hb108 => unfold maxLen; have := HNB.out; omega)
            try (case hc108 => have := HNB.out; omega)
            try (case hd108 => have := HMS.out.hB; simp; omega)
            intro gw6 capw6 w6 hown hgr hli hlg
            have HMS' := Lib.hid (HMS.out.fm (fmApp _ HOWw6.out hgr) (belApp _ HMS.out.bel (Nat.le_of_lt HS0.out) HOWw6.out hgr (by have := HMS.out.hB; have := HS0.out; omega)) (by decide) (by decide) (by decide) (by decide))
            have HIT' := Lib.hid (HIT.out.root HX.out.1 _ hown hgr (by simpa using hli))
            clear HMS HIT HOWw6 hown hgr hli
            have HMS := HMS'
            have HIT := HIT'
            clear HMS' HIT'
            have HOWw7 := Lib.hid (show w6.ownsRow W0.heap.size 27 1 (.slice ka n kc) n (ks.map (Value.int .u8)) from by have h := HIT.out.ok; rw [HX.out.2.1] at h; exact h)
            go_wp2_with (with_reducible refine wpList_append_lies _ (o := ⟨some 112, _, _, _, _, _⟩) rfl _ _ 64 rfl W0.heap.size 27 j0 _ 1 1 Tryf.underlying64 J0.out J1.out J2.out J3.out rfl (by decide) (.slice ka n kc) n (ks.map (Value.int .u8)) rfl (World.ownsRow.alloc HOWw7.out _) ⟨w6.heap.size, 0, none⟩ 1 1 [.int .u8 (v % 12)] rfl rfl ?nw112 ?ho112 (by decide) ?hb112 ?hc112 ?hd112 _ rfl ?_)
            try (case nw112 => exact World.news_of_block (cs := #[.int .u8 (v % 12)]) (t := 27) (fr := (0, 0)) (heap_alloc_new w6 _))
            try (case ho112 => simp [Value.oneCell'])
            try (case hb112 => unfold maxLen; have := HNB.out; omega)
            try (case hc112 => have := HNB.out; omega)
            try (case hd112 => have := HMS.out.hB; simp; omega)
            intro gw7 capw7 w7 hown hgr hli hlg
            have HMS' := Lib.hid (HMS.out.fm (fmApp _ HOWw7.out hgr) (belApp _ HMS.out.bel (Nat.le_of_lt HS0.out) HOWw7.out hgr (by have := HMS.out.hB; have := HS0.out; omega)) (by decide) (by decide) (by decide) (by decide))
            have HIT' := Lib.hid (HIT.out.kinds HX.out.2.1 _ hown hgr)
            clear HMS HIT HOWw7 hown hgr hli
            have HMS := HMS'
            have HIT := HIT'
            clear HMS' HIT'
            have HOWw8 := Lib.hid (show w7.ownsRow W0.heap.size 3 1 (.slice sa 0 sc) 0 (stk []) from by have h := HIT.out.os; rw [HX.out.2.2.2.1] at h; exact h)
            go_wp2_with (with_reducible refine wpList_append_lies _ (o := ⟨some 116, _, _, _, _, _⟩) rfl _ _ 63 rfl W0.heap.size 3 i0 _ 1 8 Tryf.underlying63 I0.out I1.out I2.out I3.out rfl (by decide) (.slice sa 0 sc) 0 (stk []) rfl (World.ownsRow.alloc HOWw8.out _) ⟨w7.heap.size, 0, none⟩ 1 1 [.int .i64 (n : Int)] rfl rfl ?nw116 ?ho116 (by decide) ?hb116 ?hc116 ?hd116 _ rfl ?_)
            try (case nw116 => exact World.news_of_block (cs := #[.int .i64 (n : Int)]) (t := 3) (fr := (0, 0)) (heap_alloc_new w7 _))
            try (case ho116 => simp [Value.oneCell'])
            try (case hb116 => unfold maxLen; have := HNB.out; omega)
            try (case hc116 => have := HNB.out; omega)
            try (case hd116 => have := HMS.out.hB; simp; omega)
            intro gw8 capw8 w8 hown hgr hli hlg
            have HMS' := Lib.hid (HMS.out.fm (fmApp _ HOWw8.out hgr) (belApp _ HMS.out.bel (Nat.le_of_lt HS0.out) HOWw8.out hgr (by have := HMS.out.hB; have := HS0.out; omega)) (by decide) (by decide) (by decide) (by decide))
            have HIT' := Lib.hid (HIT.out.stack (s := s) HX.out.2.2.2.1 _ hown hgr (by simpa using hli))
            clear HMS HIT HOWw8 hown hgr hli
            have HMS := HMS'
            have HIT := HIT'
            clear HMS' HIT'
            have HCU := Lib.hid (curS p (some ⟨s, 0, none⟩) _ w8 HMS.out.pq)
            go_wp2_with fail
            refine HCU.out.mono ?_
            rintro e w9 ⟨rfl, rfl⟩
            clear HCU
            have hsc := HMS.out.sc
            have ls := hsc.lt
            have sf14 := hsc.frozen 14
            have sf6 := hsc.frozen 6
            have s14 : w8.cell? ⟨s, 14, none⟩ = some (.int .u8 0) := by rw [hsc.cell]; rfl
            have s6 : w8.cell? ⟨s, 6, none⟩ = some (il 0) := by rw [hsc.cell]; rfl
            clear hsc
            by_cases hn0 : n = 0
            · subst hn0
              have er : ro = [] := List.eq_nil_of_length_eq_zero HX.out.1
              have ek : ks = [] := List.eq_nil_of_length_eq_zero HX.out.2.1
              subst er ek
              go_wp2_with fail
              go_roundw
              case rel => exact ⟨i + 1, 1, 1, [(s, 0)], some ⟨s, 0, none⟩, [0], [(v % 12)], a1 + (i : Int), a', c', xs', some ⟨gw8, 0, none⟩, capw8, some ⟨gw6, 0, none⟩, capw6, some ⟨gw7, 0, none⟩, capw7, by omega, rfl, rfl, rfl, congrArg _ HLOC.out, by go_num, Lib.hid (HMS.out.done0 (Nat.lt_of_le_of_lt (Nat.zero_le _) HS0.out) HW0.out.1 HW0.out.2).1, Lib.hid (HIT.out.stay s 41 _ HMS.out.sc (by decide) (by decide) (fun x hx => by rw [Below.heap_setCell _ _ _ x (by simpa using hx), Below.heap_setCell _ _ _ x (by simpa using hx)])), Lib.hid ⟨rfl, rfl, (HMS.out.done0 (Nat.lt_of_le_of_lt (Nat.zero_le _) HS0.out) HW0.out.1 HW0.out.2).2, rfl, by omega⟩⟩
              case measure => simp [intOf]; omega
            · have hn1 : ((n : Int) == 0) = false := by rw [beq_eq_false_iff_ne]; omega
              have hlp : ¬ loc ≤ prev := by have := HLP.out (by omega); omega
              go_wp2_with fail
              clear s14 s6 sf14 sf6
              go_roundw
              case rel => exact ⟨i + 1, n + 1, 0 + 1, (s, n) :: [], some ⟨s, 0, none⟩, ro ++ [n], ks ++ [(v % 12)], a1 + (i : Int), a', c', xs', some ⟨gw8, 0, none⟩, capw8, some ⟨gw6, 0, none⟩, capw6, some ⟨gw7, 0, none⟩, capw7, by omega, rfl, rfl, rfl, congrArg _ HLOC.out, by go_num, Lib.hid (HMS.out.doneN n (fun x => by simp [topOf, smOf, hn0]) HX.out.1 HX.out.2.1 (Nat.lt_of_le_of_lt (Nat.zero_le _) HS0.out) HW0.out.1 HW0.out.2), HIT, Lib.hid ⟨by simp [HX.out.1], by simp [HX.out.2.1], HMS.out.bel, by simp [HX.out.2.2.2.1], by have := HX.out.2.2.2.2; omega⟩⟩
              case measure => simp [intOf]; omega
        · have hnm : ns = rest.length + 1 := by have := HX.out.2.2.2.1; simp at this; omega
          obtain ⟨gs, rfl, hgB, lgs, hsc, csj⟩ := HIT.out.top hnm
          obtain ⟨m, hm⟩ : ∃ m, m = rest.length := ⟨_, rfl⟩
          rw [← hm] at csj
          obtain ⟨hns1, e2, m0, m1, m2, hnsp⟩ := topFacts (show ns = m + 1 by rw [hm]; exact hnm) hsc (Nat.le_trans HX.out.2.2.2.2 (Nat.le_of_lt HI.out))
          have hjn := HPT.out.jlt (Q, j) (by simp)
          simp only at hjn
          have HNM := Lib.hid (⟨hnm, hm⟩ : ns = rest.length + 1 ∧ m = rest.length)
          have HJN := Lib.hid hjn
          clear hnm hm hgB hsc
          obtain ⟨gk, rfl, lgk, hkc, ckj⟩ := HIT.out.kat HX.out.2.1 HJN.out
          obtain ⟨k7, hk7⟩ : ∃ k7, k7 = ks.getD j 0 := ⟨_, rfl⟩
          rw [← hk7] at ckj
          have hj0 : (0 : Int) ≤ (j : Int) := Int.natCast_nonneg _
          have hj1 : (j : Int) < (n : Int) := by have := HJN.out; omega
          by_cases h8 : (v % 12) = 8
          · have h8b : ((v % 12) == 8) = true := by simp [h8]
            by_cases h7 : k7 = 7
            · have h7b : (k7 != 7) = false := by simp [h7]
              have HK7 := Lib.hid (⟨h8, by rw [← hk7]; exact h7⟩ : (v % 12) = 8 ∧ ks.getD j 0 = 7)
              clear h8 h7 hk7
              have HPU := Lib.hid (pushAny p W0.heap.size p a2 a3 a1 i n ((Q, j) :: rest) cur ro ks prev a c xs wr HPT.out (v % 12) (by have := HA1.out; have := HBA.out; omega) (fun _ => ⟨(Q, j), rest, rfl, HK7.out.2⟩))
              have HLP := Lib.hid (show 0 < n → prev < loc from fun h => by have := (HPT.out.last h).2; rw [HLOC.out]; exact this)
              rw [← HLOC.out] at HPU
              go_wp2_with fail
              refine HPU.out.mono ?_
              intro e w5 hq
              clear ckj c0 csj lgk lgs
              have he := hq.1
              subst he
              obtain ⟨a', c', mb, xs', hms⟩ := MS.start HPT.out HI.out HX.out.2.2.1 (by rw [← HLOC.out]; exact hq)
              obtain ⟨s, hs⟩ : ∃ s, s = wr.heap.size + 1 + 1 := ⟨_, rfl⟩
              rw [← hs] at hms
              have HMS := Lib.hid hms
              have HIT5 := Lib.hid (HIT.out.keep hq.frame)
              have HNB := Lib.hid (show n ≤ 65536 ∧ ns ≤ 65536 from by have := HPT.out.hn; have := HX.out.2.2.2.2; have := HI.out; omega)
              clear hms hs hq HPU HPT HIT
              have HIT := HIT5
              clear HIT5
              obtain ⟨gs', hgs', _, lgs5, _, csj5⟩ := HIT.out.top HNM.out.1
              obtain rfl : gs = gs' := by simpa using hgs'
              rw [← HNM.out.2] at csj5
              obtain ⟨gr, rfl, lgr5, hrc, crj5⟩ := HIT.out.rat HX.out.1 HJN.out
              obtain ⟨r, hr⟩ : ∃ r, r = ro.getD j 0 := ⟨_, rfl⟩
              rw [← hr] at crj5
              have HR := Lib.hid hr
              clear hr hgs'
              have hj0 : (0 : Int) ≤ (j : Int) := Int.natCast_nonneg _
              have hj1 : (j : Int) < (n : Int) := by have := HJN.out; omega
              have hj2 : (j : Int) < (rc : Int) := by omega
              have HOWw6 := Lib.hid (show w5.ownsRow W0.heap.size 3 1 (.slice (some ⟨gr, 0, none⟩) n rc) n (ro.map (fun (j : Nat) => Value.int .i64 (j : Int))) from by have h := HIT.out.orr; rw [HX.out.1] at h; exact h)
              go_wp2_with (with_reducible refine wpList_append_lies _ (o := ⟨some 108, _, _, _, _, _⟩) rfl _ _ 63 rfl W0.heap.size 3 i0 _ 1 8 Tryf.underlying63 I0.out I1.out I2.out I3.out rfl (by decide) (.slice (some ⟨gr, 0, none⟩) n rc) n (ro.map (fun (j : Nat) => Value.int .i64 (j : Int))) rfl (World.ownsRow.alloc HOWw6.out _) ⟨w5.heap.size, 0, none⟩ 1 1 [.int .i64 (r : Int)] rfl rfl ?nw108 ?ho108 (by decide) ?hb108 ?hc108 ?hd108 _ rfl ?_)
              try (case nw108 => exact World.news_of_block (cs := #[.int .i64 (r : Int)]) (t := 3) (fr := (0, 0)) (heap_alloc_new w5 _))
              try (case ho108 => simp [Value.oneCell'])
              try (case hb108 => unfold maxLen; have := HNB.out; omega)
              try (case hc108 => have := HNB.out; omega)
              try (case hd108 => have := HMS.out.hB; simp; omega)
              intro gw6 capw6 w6 hown hgr hli hlg
              have HMS' := Lib.hid (HMS.out.fm (fmApp _ HOWw6.out hgr) (belApp _ HMS.out.bel (Nat.le_of_lt HS0.out) HOWw6.out hgr (by have := HMS.out.hB; have := HS0.out; omega)) (by decide) (by decide) (by decide) (by decide))
              have HIT' := Lib.hid (HIT.out.root HX.out.1 _ hown hgr (by simpa using hli))
              clear HMS HIT HOWw6 hown hgr hli
              have HMS := HMS'
              have HIT := HIT'
              clear HMS' HIT'
              have HOWw7 := Lib.hid (show w6.ownsRow W0.heap.size 27 1 (.slice (some ⟨gk, 0, none⟩) n kc) n (ks.map (Value.int .u8)) from by have h := HIT.out.ok; rw [HX.out.2.1] at h; exact h)
              go_wp2_with (with_reducible refine wpList_append_lies _ (o := ⟨some 112, _, _, _, _, _⟩) rfl _ _ 64 rfl W0.heap.size 27 j0 _ 1 1 Tryf.underlying64 J0.out J1.out J2.out J3.out rfl (by decide) (.slice (some ⟨gk, 0, none⟩) n kc) n (ks.map (Value.int .u8)) rfl (World.ownsRow.alloc HOWw7.out _) ⟨w6.heap.size, 0, none⟩ 1 1 [.int .u8 (v % 12)] rfl rfl ?nw112 ?ho112 (by decide) ?hb112 ?hc112 ?hd112 _ rfl ?_)
              try (case nw112 => exact World.news_of_block (cs := #[.int .u8 (v % 12)]) (t := 27) (fr := (0, 0)) (heap_alloc_new w6 _))
              try (case ho112 => simp [Value.oneCell'])
              try (case hb112 => unfold maxLen; have := HNB.out; omega)
              try (case hc112 => have := HNB.out; omega)
              try (case hd112 => have := HMS.out.hB; simp; omega)
              intro gw7 capw7 w7 hown hgr hli hlg
              have HMS' := Lib.hid (HMS.out.fm (fmApp _ HOWw7.out hgr) (belApp _ HMS.out.bel (Nat.le_of_lt HS0.out) HOWw7.out hgr (by have := HMS.out.hB; have := HS0.out; omega)) (by decide) (by decide) (by decide) (by decide))
              have HIT' := Lib.hid (HIT.out.kinds HX.out.2.1 _ hown hgr)
              clear HMS HIT HOWw7 hown hgr hli
              have HMS := HMS'
              have HIT := HIT'
              clear HMS' HIT'
              have HOWw8 := Lib.hid (show w7.ownsRow W0.heap.size 3 1 (.slice (some ⟨gs, 0, none⟩) ns sc) ns (stk ((Q, j) :: rest)) from by have h := HIT.out.os; rw [HX.out.2.2.2.1] at h; exact h)
              go_wp2_with (with_reducible refine wpList_append_lies _ (o := ⟨some 116, _, _, _, _, _⟩) rfl _ _ 63 rfl W0.heap.size 3 i0 _ 1 8 Tryf.underlying63 I0.out I1.out I2.out I3.out rfl (by decide) (.slice (some ⟨gs, 0, none⟩) ns sc) ns (stk ((Q, j) :: rest)) rfl (World.ownsRow.alloc HOWw8.out _) ⟨w7.heap.size, 0, none⟩ 1 1 [.int .i64 (n : Int)] rfl rfl ?nw116 ?ho116 (by decide) ?hb116 ?hc116 ?hd116 _ rfl ?_)
              try (case nw116 => exact World.news_of_block (cs := #[.int .i64 (n : Int)]) (t := 3) (fr := (0, 0)) (heap_alloc_new w7 _))
              try (case ho116 => simp [Value.oneCell'])
              try (case hb116 => unfold maxLen; have := HNB.out; omega)
              try (case hc116 => have := HNB.out; omega)
              try (case hd116 => have := HMS.out.hB; simp; omega)
              intro gw8 capw8 w8 hown hgr hli hlg
              have HMS' := Lib.hid (HMS.out.fm (fmApp _ HOWw8.out hgr) (belApp _ HMS.out.bel (Nat.le_of_lt HS0.out) HOWw8.out hgr (by have := HMS.out.hB; have := HS0.out; omega)) (by decide) (by decide) (by decide) (by decide))
              have HIT' := Lib.hid (HIT.out.stack (s := s) HX.out.2.2.2.1 _ hown hgr (by simpa using hli))
              clear HMS HIT HOWw8 hown hgr hli
              have HMS := HMS'
              have HIT := HIT'
              clear HMS' HIT'
              have HCU := Lib.hid (curS p (some ⟨s, 0, none⟩) _ w8 HMS.out.pq)
              go_wp2_with fail
              refine HCU.out.mono ?_
              rintro e w9 ⟨rfl, rfl⟩
              clear HCU
              have hsc := HMS.out.sc
              have ls := hsc.lt
              have sf14 := hsc.frozen 14
              have sf6 := hsc.frozen 6
              have hn1 : ((n : Int) == 0) = false := by rw [beq_eq_false_iff_ne]; omega
              have hlp : ¬ loc ≤ prev := by have := HLP.out (by omega); omega
              by_cases hr0 : r = 0
              · have hr1 : ((r : Int) == 0) = true := by simp [hr0]
                have s14 : w8.cell? ⟨s, 14, none⟩ = some (.int .u8 a2) := by rw [hsc.cell, show topOf a2 ro ((Q, j) :: rest) = a2 by simp only [topOf, smOf]; rw [← HR.out, if_pos hr0]]; rfl
                have s6 : w8.cell? ⟨s, 6, none⟩ = some (il a3) := by rw [hsc.cell, show topOf a3 ro ((Q, j) :: rest) = a3 by simp only [topOf, smOf]; rw [← HR.out, if_pos hr0]]; rfl
                clear hsc hr0
                go_wp2_with fail
                clear s14 s6 sf14 sf6
                go_roundw
                case rel => exact ⟨i + 1, n + 1, ns + 1, (s, n) :: ((Q, j) :: rest), some ⟨s, 0, none⟩, ro ++ [r], ks ++ [(v % 12)], a1 + (i : Int), a', c', xs', some ⟨gw8, 0, none⟩, capw8, some ⟨gw6, 0, none⟩, capw6, some ⟨gw7, 0, none⟩, capw7, by omega, rfl, rfl, rfl, congrArg _ HLOC.out, by go_num, Lib.hid (HMS.out.doneN r (fun x => by simp only [topOf]; rw [← HR.out]) HX.out.1 HX.out.2.1 (Nat.lt_of_le_of_lt (Nat.zero_le _) HS0.out) HW0.out.1 HW0.out.2), HIT, Lib.hid ⟨by simp [HX.out.1], by simp [HX.out.2.1], HMS.out.bel, by simp [HX.out.2.2.2.1], by have := HX.out.2.2.2.2; omega⟩⟩
                case measure => simp [intOf]; omega
              · have hr1 : ((r : Int) == 0) = false := by rw [beq_eq_false_iff_ne]; omega
                have s14 : w8.cell? ⟨s, 14, none⟩ = some (.int .u8 0) := by rw [hsc.cell, show topOf a2 ro ((Q, j) :: rest) = 0 by simp only [topOf, smOf]; rw [← HR.out, if_neg hr0]]; rfl
                have s6 : w8.cell? ⟨s, 6, none⟩ = some (il 0) := by rw [hsc.cell, show topOf a3 ro ((Q, j) :: rest) = 0 by simp only [topOf, smOf]; rw [← HR.out, if_neg hr0]]; rfl
                clear hsc hr0
                go_wp2_with fail
                clear s14 s6 sf14 sf6
                go_roundw
                case rel => exact ⟨i + 1, n + 1, ns + 1, (s, n) :: ((Q, j) :: rest), some ⟨s, 0, none⟩, ro ++ [r], ks ++ [(v % 12)], a1 + (i : Int), a', c', xs', some ⟨gw8, 0, none⟩, capw8, some ⟨gw6, 0, none⟩, capw6, some ⟨gw7, 0, none⟩, capw7, by omega, rfl, rfl, rfl, congrArg _ HLOC.out, by go_num, Lib.hid (HMS.out.doneN r (fun x => by simp only [topOf]; rw [← HR.out]) HX.out.1 HX.out.2.1 (Nat.lt_of_le_of_lt (Nat.zero_le _) HS0.out) HW0.out.1 HW0.out.2), HIT, Lib.hid ⟨by simp [HX.out.1], by simp [HX.out.2.1], HMS.out.bel, by simp [HX.out.2.2.2.1], by have := HX.out.2.2.2.2; omega⟩⟩
                case measure => simp [intOf]; omega
            · have h7b : (k7 != 7) = true := by simp [h7]
              clear h8 h7 hk7 hkc
              go_wp2_with fail
              go_roundw
              case rel => exact ⟨i + 1, n, ns, ((Q, j) :: rest), cur, ro, ks, prev, a, c, xs, some ⟨gs, 0, none⟩, sc, ra, rc, some ⟨gk, 0, none⟩, kc, by omega, rfl, rfl, rfl, rfl, by go_num, Lib.hid (HPT.out.skip HI.out), HIT, Lib.hid ⟨HX.out.1, HX.out.2.1, HX.out.2.2.1, HX.out.2.2.2.1, by have := HX.out.2.2.2.2; omega⟩⟩
              case measure => simp [intOf]; omega
          · have h8b : ((v % 12) == 8) = false := by rw [beq_eq_false_iff_ne]; exact h8
            clear hk7
            have HPU := Lib.hid (pushAny p W0.heap.size p a2 a3 a1 i n ((Q, j) :: rest) cur ro ks prev a c xs wr HPT.out (v % 12) (by have := HA1.out; have := HBA.out; omega) (fun h => absurd h h8))
            have HLP := Lib.hid (show 0 < n → prev < loc from fun h => by have := (HPT.out.last h).2; rw [HLOC.out]; exact this)
            rw [← HLOC.out] at HPU
            go_wp2_with fail
            refine HPU.out.mono ?_
            intro e w5 hq
            clear ckj c0 csj lgk lgs
            have he := hq.1
            subst he
            obtain ⟨a', c', mb, xs', hms⟩ := MS.start HPT.out HI.out HX.out.2.2.1 (by rw [← HLOC.out]; exact hq)
            obtain ⟨s, hs⟩ : ∃ s, s = wr.heap.size + 1 + 1 := ⟨_, rfl⟩
            rw [← hs] at hms
            have HMS := Lib.hid hms
            have HIT5 := Lib.hid (HIT.out.keep hq.frame)
            have HNB := Lib.hid (show n ≤ 65536 ∧ ns ≤ 65536 from by have := HPT.out.hn; have := HX.out.2.2.2.2; have := HI.out; omega)
            clear hms hs hq HPU HPT HIT
            have HIT := HIT5
            clear HIT5
            obtain ⟨gs', hgs', _, lgs5, _, csj5⟩ := HIT.out.top HNM.out.1
            obtain rfl : gs = gs' := by simpa using hgs'
            rw [← HNM.out.2] at csj5
            obtain ⟨gr, rfl, lgr5, hrc, crj5⟩ := HIT.out.rat HX.out.1 HJN.out
            obtain ⟨r, hr⟩ : ∃ r, r = ro.getD j 0 := ⟨_, rfl⟩
            rw [← hr] at crj5
            have HR := Lib.hid hr
            clear hr hgs'
            have hj0 : (0 : Int) ≤ (j : Int) := Int.natCast_nonneg _
            have hj1 : (j : Int) < (n : Int) := by have := HJN.out; omega
            have hj2 : (j : Int) < (rc : Int) := by omega
            have HOWw6 := Lib.hid (show w5.ownsRow W0.heap.size 3 1 (.slice (some ⟨gr, 0, none⟩) n rc) n (ro.map (fun (j : Nat) => Value.int .i64 (j : Int))) from by have h := HIT.out.orr; rw [HX.out.1] at h; exact h)
            go_wp2_with (with_reducible refine wpList_append_lies _ (o := ⟨some 108, _, _, _, _, _⟩) rfl _ _ 63 rfl W0.heap.size 3 i0 _ 1 8 Tryf.underlying63 I0.out I1.out I2.out I3.out rfl (by decide) (.slice (some ⟨gr, 0, none⟩) n rc) n (ro.map (fun (j : Nat) => Value.int .i64 (j : Int))) rfl (World.ownsRow.alloc HOWw6.out _) ⟨w5.heap.size, 0, none⟩ 1 1 [.int .i64 (r : Int)] rfl rfl ?nw108 ?ho108 (by decide) ?hb108 ?hc108 ?hd108 _ rfl ?_)
            try (case nw108 => exact World.news_of_block (cs := #[.int .i64 (r : Int)]) (t := 3) (fr := (0, 0)) (heap_alloc_new w5 _))
            try (case ho108 => simp [Value.oneCell'])
            try (case hb108 => unfold maxLen; have := HNB.out; omega)
            try (case hc108 => have := HNB.out; omega)
            try (case hd108 => have := HMS.out.hB; simp; omega)
            intro gw6 capw6 w6 hown hgr hli hlg
            have HMS' := Lib.hid (HMS.out.fm (fmApp _ HOWw6.out hgr) (belApp _ HMS.out.bel (Nat.le_of_lt HS0.out) HOWw6.out hgr (by have := HMS.out.hB; have := HS0.out; omega)) (by decide) (by decide) (by decide) (by decide))
            have HIT' := Lib.hid (HIT.out.root HX.out.1 _ hown hgr (by simpa using hli))
            clear HMS HIT HOWw6 hown hgr hli
            have HMS := HMS'
            have HIT := HIT'
            clear HMS' HIT'
            have HOWw7 := Lib.hid (show w6.ownsRow W0.heap.size 27 1 (.slice (some ⟨gk, 0, none⟩) n kc) n (ks.map (Value.int .u8)) from by have h := HIT.out.ok; rw [HX.out.2.1] at h; exact h)
            go_wp2_with (with_reducible refine wpList_append_lies _ (o := ⟨some 112, _, _, _, _, _⟩) rfl _ _ 64 rfl W0.heap.size 27 j0 _ 1 1 Tryf.underlying64 J0.out J1.out J2.out J3.out rfl (by decide) (.slice (some ⟨gk, 0, none⟩) n kc) n (ks.map (Value.int .u8)) rfl (World.ownsRow.alloc HOWw7.out _) ⟨w6.heap.size, 0, none⟩ 1 1 [.int .u8 (v % 12)] rfl rfl ?nw112 ?ho112 (by decide) ?hb112 ?hc112 ?hd112 _ rfl ?_)
            try (case nw112 => exact World.news_of_block (cs := #[.int .u8 (v % 12)]) (t := 27) (fr := (0, 0)) (heap_alloc_new w6 _))
            try (case ho112 => simp [Value.oneCell'])
            try (case hb112 => unfold maxLen; have := HNB.out; omega)
            try (case hc112 => have := HNB.out; omega)
            try (case hd112 => have := HMS.out.hB; simp; omega)
            intro gw7 capw7 w7 hown hgr hli hlg
            have HMS' := Lib.hid (HMS.out.fm (fmApp _ HOWw7.out hgr) (belApp _ HMS.out.bel (Nat.le_of_lt HS0.out) HOWw7.out hgr (by have := HMS.out.hB; have := HS0.out; omega)) (by decide) (by decide) (by decide) (by decide))
            have HIT' := Lib.hid (HIT.out.kinds HX.out.2.1 _ hown hgr)
            clear HMS HIT HOWw7 hown hgr hli
            have HMS := HMS'
            have HIT := HIT'
            clear HMS' HIT'
            have HOWw8 := Lib.hid (show w7.ownsRow W0.heap.size 3 1 (.slice (some ⟨gs, 0, none⟩) ns sc) ns (stk ((Q, j) :: rest)) from by have h := HIT.out.os; rw [HX.out.2.2.2.1] at h; exact h)
            go_wp2_with (with_reducible refine wpList_append_lies _ (o := ⟨some 116, _, _, _, _, _⟩) rfl _ _ 63 rfl W0.heap.size 3 i0 _ 1 8 Tryf.underlying63 I0.out I1.out I2.out I3.out rfl (by decide) (.slice (some ⟨gs, 0, none⟩) ns sc) ns (stk ((Q, j) :: rest)) rfl (World.ownsRow.alloc HOWw8.out _) ⟨w7.heap.size, 0, none⟩ 1 1 [.int .i64 (n : Int)] rfl rfl ?nw116 ?ho116 (by decide) ?hb116 ?hc116 ?hd116 _ rfl ?_)
            try (case nw116 => exact World.news_of_block (cs := #[.int .i64 (n : Int)]) (t := 3) (fr := (0, 0)) (heap_alloc_new w7 _))
            try (case ho116 => simp [Value.oneCell'])
            try (case hb116 => unfold maxLen; have := HNB.out; omega)
            try (case hc116 => have := HNB.out; omega)
            try (case hd116 => have := HMS.out.hB; simp; omega)
            intro gw8 capw8 w8 hown hgr hli hlg
            have HMS' := Lib.hid (HMS.out.fm (fmApp _ HOWw8.out hgr) (belApp _ HMS.out.bel (Nat.le_of_lt HS0.out) HOWw8.out hgr (by have := HMS.out.hB; have := HS0.out; omega)) (by decide) (by decide) (by decide) (by decide))
            have HIT' := Lib.hid (HIT.out.stack (s := s) HX.out.2.2.2.1 _ hown hgr (by simpa using hli))
            clear HMS HIT HOWw8 hown hgr hli
            have HMS := HMS'
            have HIT := HIT'
            clear HMS' HIT'
            have HCU := Lib.hid (curS p (some ⟨s, 0, none⟩) _ w8 HMS.out.pq)
            go_wp2_with fail
            refine HCU.out.mono ?_
            rintro e w9 ⟨rfl, rfl⟩
            clear HCU
            have hsc := HMS.out.sc
            have ls := hsc.lt
            have sf14 := hsc.frozen 14
            have sf6 := hsc.frozen 6
            have hn1 : ((n : Int) == 0) = false := by rw [beq_eq_false_iff_ne]; omega
            have hlp : ¬ loc ≤ prev := by have := HLP.out (by omega); omega
            by_cases hr0 : r = 0
            · have hr1 : ((r : Int) == 0) = true := by simp [hr0]
              have s14 : w8.cell? ⟨s, 14, none⟩ = some (.int .u8 a2) := by rw [hsc.cell, show topOf a2 ro ((Q, j) :: rest) = a2 by simp only [topOf, smOf]; rw [← HR.out, if_pos hr0]]; rfl
              have s6 : w8.cell? ⟨s, 6, none⟩ = some (il a3) := by rw [hsc.cell, show topOf a3 ro ((Q, j) :: rest) = a3 by simp only [topOf, smOf]; rw [← HR.out, if_pos hr0]]; rfl
              clear hsc hr0
              go_wp2_with fail
              clear s14 s6 sf14 sf6
              go_roundw
              case rel => exact ⟨i + 1, n + 1, ns + 1, (s, n) :: ((Q, j) :: rest), some ⟨s, 0, none⟩, ro ++ [r], ks ++ [(v % 12)], a1 + (i : Int), a', c', xs', some ⟨gw8, 0, none⟩, capw8, some ⟨gw6, 0, none⟩, capw6, some ⟨gw7, 0, none⟩, capw7, by omega, rfl, rfl, rfl, congrArg _ HLOC.out, by go_num, Lib.hid (HMS.out.doneN r (fun x => by simp only [topOf]; rw [← HR.out]) HX.out.1 HX.out.2.1 (Nat.lt_of_le_of_lt (Nat.zero_le _) HS0.out) HW0.out.1 HW0.out.2), HIT, Lib.hid ⟨by simp [HX.out.1], by simp [HX.out.2.1], HMS.out.bel, by simp [HX.out.2.2.2.1], by have := HX.out.2.2.2.2; omega⟩⟩
              case measure => simp [intOf]; omega
            · have hr1 : ((r : Int) == 0) = false := by rw [beq_eq_false_iff_ne]; omega
              have s14 : w8.cell? ⟨s, 14, none⟩ = some (.int .u8 0) := by rw [hsc.cell, show topOf a2 ro ((Q, j) :: rest) = 0 by simp only [topOf, smOf]; rw [← HR.out, if_neg hr0]]; rfl
              have s6 : w8.cell? ⟨s, 6, none⟩ = some (il 0) := by rw [hsc.cell, show topOf a3 ro ((Q, j) :: rest) = 0 by simp only [topOf, smOf]; rw [← HR.out, if_neg hr0]]; rfl
              clear hsc hr0
              go_wp2_with fail
              clear s14 s6 sf14 sf6
              go_roundw
              case rel => exact ⟨i + 1, n + 1, ns + 1, (s, n) :: ((Q, j) :: rest), some ⟨s, 0, none⟩, ro ++ [r], ks ++ [(v % 12)], a1 + (i : Int), a', c', xs', some ⟨gw8, 0, none⟩, capw8, some ⟨gw6, 0, none⟩, capw6, some ⟨gw7, 0, none⟩, capw7, by omega, rfl, rfl, rfl, congrArg _ HLOC.out, by go_num, Lib.hid (HMS.out.doneN r (fun x => by simp only [topOf]; rw [← HR.out]) HX.out.1 HX.out.2.1 (Nat.lt_of_le_of_lt (Nat.zero_le _) HS0.out) HW0.out.1 HW0.out.2), HIT, Lib.hid ⟨by simp [HX.out.1], by simp [HX.out.2.1], HMS.out.bel, by simp [HX.out.2.2.2.1], by have := HX.out.2.2.2.2; omega⟩⟩
              case measure => simp [intOf]; omega
    · obtain rfl : i = len0 := by omega
      have hlt1 : ¬ (i : Int) < (i : Int) := by omega
      have HE := Lib.hid (lenS p n c a (.pointer cur) wr HPT.out.pq)
      clear hlt
      go_wp2_with fail
      refine HE.out.mono ?_
      rintro e w9 ⟨rfl, rfl⟩
      go_wp2_with fail
      go_ret
      exact ⟨rfl, (HBV.out.trans ((HB0.out.mono (by have := HBV.out.size; have := HVP.out; omega)).trans (HX.out.2.2.1.mono (by have := HBV.out.size; have := HVP.out; omega))))⟩
end fnPushScopeForParsePassInheritsStrictMode
end Go.Proofs.YthgcchgpplblbaaFmt
