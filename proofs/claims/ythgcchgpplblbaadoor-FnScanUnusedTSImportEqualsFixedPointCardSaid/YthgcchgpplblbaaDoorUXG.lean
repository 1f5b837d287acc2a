/- Proved here: the walk of scanForUnusedTSImportEquals. Conditions as stated. -/
import Derived.Test.YthgcchgpplblbaaDoorUXF
import Derived.WalkKit
import Derived.WalkSpells
import Derived.WalkLawsBesides
import Derived.Lib.Hide
import Derived.Lib.SliceRun
import Derived.Deep.RegionWith
import Derived.OwnWalk
import Derived.Laws.OwnMore
import Derived.BigRegion
import Derived.Carry
import Derived.IntWalk
import Derived.BigQuiet
namespace Go.Proofs.YthgcchgpplblbaaDoor
open Go.RowKit
set_option linter.unusedSimpArgs false
set_option linter.unusedVariables false

namespace UX
theorem SR.room {w : World} {S m : Nat} {dat : Nat → Value} {J K : List Nat} {k e : Nat} (h : SR w S m dat J k K) (he : e < m) : ∃ x y, w.cell? ⟨S, e * 2, none⟩ = some x ∧ w.cell? ⟨S, e * 2 + 1, none⟩ = some y ∧ w.frozen? ⟨S, e * 2, none⟩ = false ∧ w.frozen? ⟨S, e * 2 + 1, none⟩ = false ∧ S < w.heap.size := by
  obtain ⟨cs, h1, h2, _⟩ := h
  exact ⟨cs[e * 2]'(by omega), cs[e * 2 + 1]'(by omega), by rw [h1.cell]; exact Array.getElem?_eq_getElem _, by rw [h1.cell]; exact Array.getElem?_eq_getElem _, h1.frozen _, h1.frozen _, h1.lt⟩
def SCrel (p Y S n m r : Nat) (kd : Nat → Int) (b v : Nat → Nat) (dat : Nat → Value) (C : List Int) (J : List Nat) (L : Nat) (w0 : World) (s5 s12 : Value) (wr : World) : Prop := ∃ (k e : Nat) (K : List Nat) (C' : List Int) (kp rm : Bool), k ≤ L ∧ s12 = .int .i64 k ∧ s5 = .int .i64 e ∧ e ≤ k ∧ Hid (SW p Y S n m r kd b v dat C J k K C' kp rm w0 wr) ∧ Hid (e = K.length)
def SCP (p Y S n m L cap : Nat) (kd : Nat → Int) (b v : Nat → Nat) (dat : Nat → Value) (C : List Int) (J : List Nat) (w0 : World) (f : Nat → Bool → Bool → Ending) (e : Ending) (w' : World) : Prop :=
  ∃ K C' kp rm, e = f K.length kp rm ∧ SI kd b C J L K C' rm ∧ PX w' p Y n ∧ SYM w' Y n C' ∧ SR w' S m dat K 0 [] ∧ DATS w' m kd b v dat ∧ KZ Y S w0 w' ∧ w'.cell? ⟨0, 0, none⟩ = some (.int .u32 4294967295) ∧ w'.cell? ⟨0, 1, none⟩ = some (.int .u32 4294967295)
set_option maxRecDepth 100000 in
set_option maxHeartbeats 8000000 in
theorem scan (p Y S n m L cap : Nat) (kd : Nat → Int) (b v : Nat → Nat) (dat : Nat → Value) (C : List Int) (J : List Nat) (w0 : World) (hp : PX w0 p Y n) (hs : SYM w0 Y n C) (hr : SR w0 S m dat J 0 []) (hd : DATS w0 m kd b v dat) (hL : J.length = L) (hLm : L ≤ m) (hmc : m ≤ cap) (hm : m ≤ 4096) (hn : n ≤ 4096) (hJ : ∀ i ∈ J, i < m) (hbv : ∀ i, i < m → b i < n ∧ v i < n) (hkd : ∀ i, i < m → 0 ≤ kd i ∧ kd i ≤ 5) (h0 : 0 ≠ Y ∧ 0 ≠ S) (hg0 : w0.cell? ⟨0, 0, none⟩ = some (.int .u32 4294967295)) (hg1 : w0.cell? ⟨0, 1, none⟩ = some (.int .u32 4294967295)) :
    Calls Tryd.prog 14 #[.pointer (some ⟨p, 0, none⟩), .slice (some ⟨S, 0, none⟩) L cap] w0 (SCP p Y S n m L cap kd b v dat C J w0 (fun e kp rm => .returned (.agg #[.slice (some ⟨S, 0, none⟩) e cap, .bool kp, .bool rm]))) := by
  have z0 := World.block_lt_of_cell? _ _ hg0
  have HST := Lib.hid (show SW p Y S n m w0.heap.size kd b v dat C J 0 [] C false false w0 (w0.alloc (.cells #[.slice none 0 0, .bool false, .bool false] 178)) from by
    have hb : Below w0.heap.size w0 (w0.alloc (.cells #[.slice none 0 0, .bool false, .bool false] 178)) := (Below.refl _ _).alloc (Nat.le_refl _) _
    exact ⟨hp.below hb, hs.below hb, hr.of_block (hb.block S hr.lt), At.new _ _ _, hd.keep (KX.below hb), SI.start kd b C J, KZ.of_below hb, Nat.le_refl _, kept hb hg0, kept hb hg1⟩)
  have H0 := Lib.hid h0
  have HNR := Lib.hid (show 0 ≠ Y ∧ 0 ≠ w0.heap.size from ⟨h0.1, by simp at z0; omega⟩)
  have HLM := Lib.hid (⟨hL, hLm, hmc, hm, hn⟩ : J.length = L ∧ L ≤ m ∧ m ≤ cap ∧ m ≤ 4096 ∧ n ≤ 4096)
  have HJ := Lib.hid hJ
  have HBV := Lib.hid hbv
  have HKD := Lib.hid hkd
  have hL0 : (0 : Int) ≤ (L : Int) := Int.natCast_nonneg _
  have hLc : (L : Int) ≤ (cap : Int) := by omega
  have hL1 : (L : Int) ≤ 4096 := by omega
  obtain ⟨r, hrr⟩ : ∃ r, r = w0.heap.size := ⟨_, rfl⟩
  clear hp hs hr hd hL hLm hmc hm hn hJ hbv hkd h0 hg0 hg1 z0
  go_enter Tryd.func14, Tryd.ntmps14
  go_wp2_with fail
  rw [← hrr] at HST HNR ⊢
  clear hrr
  go_loopw [5, 12] (fun s5 s12 wr => SCrel p Y S n m r kd b v dat C J L w0 s5 s12 wr) (fun _ s12 _ => L - (intOf s12).toNat)
  case atStart => exact ⟨0, 0, [], C, false, false, Nat.zero_le _, rfl, rfl, Nat.le_refl _, HST, Lib.hid rfl⟩
  case round =>
    obtain ⟨k, e, K, C', kp, rm, hk, rfl, rfl, hek, H, HE⟩ := hrel
    have hk0 : (0 : Int) ≤ (k : Int) := Int.natCast_nonneg _
    have he0 : (0 : Int) ≤ (e : Int) := Int.natCast_nonneg _
    clear HST
    by_cases hlt : k < L
    · have hlt1 : (k : Int) < (L : Int) := by omega
      have he1 : (e : Int) < (L : Int) := by omega
      have HK := Lib.hid (⟨by have := HLM.out; omega, by have := HLM.out; omega, hlt⟩ : k < m ∧ k < J.length ∧ k < L)
      obtain ⟨i, hi⟩ : ∃ i, i = J.getD k 0 := ⟨_, rfl⟩
      have HIM := Lib.hid (show i < m from HJ.out i (by rw [hi]; simp [List.getD, List.getElem?_eq_getElem HK.out.2.1]))
      obtain ⟨hstd, T, q, hdq⟩ := H.out.da i HIM.out
      have HDQ := Lib.hid hdq
      have HSTD := Lib.hid hstd
      obtain ⟨cs, hS, hSs, _, hS4⟩ := H.out.sr
      have c0 : wr.cell? ⟨S, k * 2, none⟩ = some (.iface T (.pointer q)) := by rw [hS.cell, (hS4 k (Nat.le_refl _) HK.out.2.1).1, ← hi, hdq]
      have c1 : wr.cell? ⟨S, k * 2 + 1, none⟩ = some (.int .i32 (i : Int)) := by rw [hS.cell, (hS4 k (Nat.le_refl _) HK.out.2.1).2, ← hi]
      have lS := hS.lt
      have HIJ := Lib.hid hi
      clear hS hSs hS4 hi hstd hdq
      obtain ⟨d0, hd0⟩ : ∃ d, d = kd i := ⟨_, rfl⟩
      have HD0 := Lib.hid hd0
      rw [← hd0] at HSTD
      have hk5 := HKD.out i HIM.out
      rw [← hd0] at hk5
      clear hd0
      have HB1 := Lib.hid (H.out.below ((Below.refl _ wr).alloc (Nat.le_refl _) (.cells #[.iface T (.pointer q), .int .i32 (i : Int)] 42)) HNR.out)
      have HA7 := Lib.hid (At.new wr 42 #[.iface T (.pointer q), .int .i32 (i : Int)])
      rcases HSTD.out with ⟨rfl, q2, hq2⟩ | ⟨hne0, sl, val, dd, hq2, hloc, hval⟩
      · rw [HDQ.out] at hq2
        simp only [Value.iface.injEq] at hq2
        obtain ⟨rfl, rfl⟩ := hq2
        obtain ⟨x0, x1, z0, z1, zf0, zf1, lSS⟩ := H.out.sr.room (show e < m by have := HK.out.1; omega)
        go_wp2_with fail
        go_roundw
        case rel => exact ⟨k + 1, e + 1, K ++ [i], C', kp, rm, by omega, by go_num, by go_num, by omega, Lib.hid (by
            have h := H.out.put HK.out.1 HK.out.2.1 H0.out.2 (fun h => by rw [← HIJ.out, ← HD0.out] at h; omega)
            rw [← HE.out, ← HIJ.out, HDQ.out] at h
            exact h.below ((Below.refl _ _).alloc (Nat.le_refl _) _) HNR.out), Lib.hid (by have := HE.out; simp; omega)⟩
        case measure => simp [intOf]; omega
      · rw [HDQ.out] at hq2
        simp only [Value.iface.injEq, Value.pointer.injEq] at hq2
        obtain ⟨rfl, rfl⟩ := hq2
        obtain rfl | rfl | rfl | rfl | rfl : d0 = 1 ∨ d0 = 2 ∨ d0 = 3 ∨ d0 = 4 ∨ d0 = 5 := by omega
        · have HL := Lib.hid (hloc.keep (KX.below ((Below.refl _ wr).alloc (Nat.le_refl _) (.cells #[.iface 181 (.pointer (some ⟨sl, 0, none⟩)), .int .i32 (i : Int)] 42))))
          have HV := Lib.hid (hval.keep (KX.below ((Below.refl _ wr).alloc (Nat.le_refl _) (.cells #[.iface 181 (.pointer (some ⟨sl, 0, none⟩)), .int .i32 (i : Int)] 42))))
          have HC := Lib.hid (chk1 p Y n sl r (b i) (v i) dd C' (.slice none 0 0) kp rm val _ HB1.out.px HB1.out.sy HL.out HV.out HB1.out.ar (HBV.out i HIM.out).1 (HBV.out i HIM.out).2 HLM.out.2.2.2.2 HB1.out.g0 HB1.out.g1)
          clear hloc hval
          go_wp2_with fail
          refine HC.out.mono ?_
          rintro e9 w3 ⟨C2, k2, r2, rfl, hs3, hr3, hz3, hyes, hno⟩
          obtain ⟨q1, q2, q3, q4, q5, q6⟩ := HB1.out.z hz3 HNR.out
          have A7 : At w3 wr.heap.size 42 #[.iface 181 (.pointer (some ⟨sl, 0, none⟩)), .int .i32 (i : Int)] := (hz3.2 wr.heap.size HA7.out.lt (HB1.out.sy.ne HA7.out (by decide)) (atNe HA7.out HB1.out.ar (by decide))).trans HA7.out
          by_cases hcz : C'.getD (b i) 0 = 0
          · have hcb : (C'.getD (b i) 0 == 0) = true := by rw [hcz]; rfl
            obtain ⟨rfl, _⟩ := hyes hcz
            have H3 := Lib.hid (show SW p Y S n m r kd b v dat C J (k + 1) K C2 k2 true w0 w3 from ⟨q1, hs3, q2.skip, hr3, q3, HB1.out.si.dropStep C2 HK.out.2.1 (by rw [← HIJ.out, ← HD0.out]; decide), q4, HB1.out.rn, q5, q6⟩)
            rw [hcb]
            clear HC A7 hs3 hr3 hz3 hyes hno q1 q2 q3 q4 q5 q6 hcz hcb
            go_wp2_with fail
            go_roundw
            case rel => exact ⟨k + 1, e, K, C2, k2, true, by omega, by go_num, rfl, by omega, H3, HE⟩
            case measure => simp [intOf]; omega
          · have hcb : (C'.getD (b i) 0 == 0) = false := by rw [beq_eq_false_iff_ne]; exact hcz
            obtain ⟨rfl, rfl⟩ := hno hcz
            have HCZ := Lib.hid hcz
            have H3 := Lib.hid (show SW p Y S n m r kd b v dat C J k K C2 k2 r2 w0 w3 from ⟨q1, hs3, q2, hr3, q3, HB1.out.si, q4, HB1.out.rn, q5, q6⟩)
            rw [hcb]
            have d0 : w3.cell? ⟨wr.heap.size, 0, none⟩ = some (.iface 181 (.pointer (some ⟨sl, 0, none⟩))) := by rw [A7.cell]; rfl
            have d1 : w3.cell? ⟨wr.heap.size, 1, none⟩ = some (.int .i32 (i : Int)) := by rw [A7.cell]; rfl
            have l7 := A7.lt
            obtain ⟨x0, x1, z0, z1, zf0, zf1, lSS⟩ := H3.out.sr.room (show e < m by have := HK.out.1; omega)
            clear HC A7 hs3 hr3 hz3 hyes hno q1 q2 q3 q4 q5 q6 hcz hcb
            go_wp2_with fail
            go_roundw
            case rel => exact ⟨k + 1, e + 1, K ++ [i], C2, k2, r2, by omega, by go_num, by go_num, by omega, Lib.hid (by
                have h := H3.out.put HK.out.1 HK.out.2.1 H0.out.2 (fun _ => by rw [← HIJ.out]; exact HCZ.out)
                rw [← HE.out, ← HIJ.out, HDQ.out] at h
                exact h), Lib.hid (by have := HE.out; simp; omega)⟩
            case measure => simp [intOf]; omega
        · have HL := Lib.hid (hloc.keep (KX.below ((Below.refl _ wr).alloc (Nat.le_refl _) (.cells #[.iface 181 (.pointer (some ⟨sl, 0, none⟩)), .int .i32 (i : Int)] 42))))
          have HV := Lib.hid (hval.keep (KX.below ((Below.refl _ wr).alloc (Nat.le_refl _) (.cells #[.iface 181 (.pointer (some ⟨sl, 0, none⟩)), .int .i32 (i : Int)] 42))))
          have HC := Lib.hid (chk2 p Y n sl r (b i) (v i) dd C' (.slice none 0 0) kp rm val _ HB1.out.px HB1.out.sy HL.out HV.out HB1.out.ar (HBV.out i HIM.out).1 (HBV.out i HIM.out).2 HLM.out.2.2.2.2 HB1.out.g0 HB1.out.g1)
          clear hloc hval
          go_wp2_with fail
          refine HC.out.mono ?_
          rintro e9 w3 ⟨C2, k2, r2, rfl, hs3, hr3, hz3, hyes, hno⟩
          obtain ⟨q1, q2, q3, q4, q5, q6⟩ := HB1.out.z hz3 HNR.out
          have A7 : At w3 wr.heap.size 42 #[.iface 181 (.pointer (some ⟨sl, 0, none⟩)), .int .i32 (i : Int)] := (hz3.2 wr.heap.size HA7.out.lt (HB1.out.sy.ne HA7.out (by decide)) (atNe HA7.out HB1.out.ar (by decide))).trans HA7.out
          by_cases hcz : C'.getD (b i) 0 = 0
          · have hcb : (C'.getD (b i) 0 == 0) = true := by rw [hcz]; rfl
            obtain ⟨rfl, _⟩ := hyes hcz
            have H3 := Lib.hid (show SW p Y S n m r kd b v dat C J (k + 1) K C2 k2 true w0 w3 from ⟨q1, hs3, q2.skip, hr3, q3, HB1.out.si.dropStep C2 HK.out.2.1 (by rw [← HIJ.out, ← HD0.out]; decide), q4, HB1.out.rn, q5, q6⟩)
            rw [hcb]
            clear HC A7 hs3 hr3 hz3 hyes hno q1 q2 q3 q4 q5 q6 hcz hcb
            go_wp2_with fail
            go_roundw
            case rel => exact ⟨k + 1, e, K, C2, k2, true, by omega, by go_num, rfl, by omega, H3, HE⟩
            case measure => simp [intOf]; omega
          · have hcb : (C'.getD (b i) 0 == 0) = false := by rw [beq_eq_false_iff_ne]; exact hcz
            obtain ⟨rfl, rfl⟩ := hno hcz
            have HCZ := Lib.hid hcz
            have H3 := Lib.hid (show SW p Y S n m r kd b v dat C J k K C2 k2 r2 w0 w3 from ⟨q1, hs3, q2, hr3, q3, HB1.out.si, q4, HB1.out.rn, q5, q6⟩)
            rw [hcb]
            have d0 : w3.cell? ⟨wr.heap.size, 0, none⟩ = some (.iface 181 (.pointer (some ⟨sl, 0, none⟩))) := by rw [A7.cell]; rfl
            have d1 : w3.cell? ⟨wr.heap.size, 1, none⟩ = some (.int .i32 (i : Int)) := by rw [A7.cell]; rfl
            have l7 := A7.lt
            obtain ⟨x0, x1, z0, z1, zf0, zf1, lSS⟩ := H3.out.sr.room (show e < m by have := HK.out.1; omega)
            clear HC A7 hs3 hr3 hz3 hyes hno q1 q2 q3 q4 q5 q6 hcz hcb
            go_wp2_with fail
            go_roundw
            case rel => exact ⟨k + 1, e + 1, K ++ [i], C2, k2, r2, by omega, by go_num, by go_num, by omega, Lib.hid (by
                have h := H3.out.put HK.out.1 HK.out.2.1 H0.out.2 (fun _ => by rw [← HIJ.out]; exact HCZ.out)
                rw [← HE.out, ← HIJ.out, HDQ.out] at h
                exact h), Lib.hid (by have := HE.out; simp; omega)⟩
            case measure => simp [intOf]; omega
        · have HC := Lib.hid (chkSkip p sl r _ _ _ val _ (hloc.keep (KX.below ((Below.refl _ wr).alloc (Nat.le_refl _) (.cells #[.iface 181 (.pointer (some ⟨sl, 0, none⟩)), .int .i32 (i : Int)] 42)))) (by decide))
          obtain ⟨x0, x1, z0, z1, zf0, zf1, lSS⟩ := H.out.sr.room (show e < m by have := HK.out.1; omega)
          clear hloc hval
          go_wp2_with fail
          refine HC.out.mono ?_
          rintro e9 w9 ⟨rfl, rfl⟩
          clear HC
          go_wp2_with fail
          go_roundw
          case rel => exact ⟨k + 1, e + 1, K ++ [i], C', kp, rm, by omega, by go_num, by go_num, by omega, Lib.hid (by
              have h := H.out.put HK.out.1 HK.out.2.1 H0.out.2 (fun h => by rw [← HIJ.out, ← HD0.out] at h; omega)
              rw [← HE.out, ← HIJ.out, HDQ.out] at h
              exact h.below ((Below.refl _ _).alloc (Nat.le_refl _) _) HNR.out), Lib.hid (by have := HE.out; simp; omega)⟩
          case measure => simp [intOf]; omega
        · have HC := Lib.hid (chkSkip p sl r _ _ _ val _ (hloc.keep (KX.below ((Below.refl _ wr).alloc (Nat.le_refl _) (.cells #[.iface 181 (.pointer (some ⟨sl, 0, none⟩)), .int .i32 (i : Int)] 42)))) (by decide))
          obtain ⟨x0, x1, z0, z1, zf0, zf1, lSS⟩ := H.out.sr.room (show e < m by have := HK.out.1; omega)
          clear hloc hval
          go_wp2_with fail
          refine HC.out.mono ?_
          rintro e9 w9 ⟨rfl, rfl⟩
          clear HC
          go_wp2_with fail
          go_roundw
          case rel => exact ⟨k + 1, e + 1, K ++ [i], C', kp, rm, by omega, by go_num, by go_num, by omega, Lib.hid (by
              have h := H.out.put HK.out.1 HK.out.2.1 H0.out.2 (fun h => by rw [← HIJ.out, ← HD0.out] at h; omega)
              rw [← HE.out, ← HIJ.out, HDQ.out] at h
              exact h.below ((Below.refl _ _).alloc (Nat.le_refl _) _) HNR.out), Lib.hid (by have := HE.out; simp; omega)⟩
          case measure => simp [intOf]; omega
        · have HL := Lib.hid (hloc.keep (KX.below ((Below.refl _ wr).alloc (Nat.le_refl _) (.cells #[.iface 181 (.pointer (some ⟨sl, 0, none⟩)), .int .i32 (i : Int)] 42))))
          have HV := Lib.hid (hval.keep (KX.below ((Below.refl _ wr).alloc (Nat.le_refl _) (.cells #[.iface 181 (.pointer (some ⟨sl, 0, none⟩)), .int .i32 (i : Int)] 42))))
          have HC := Lib.hid (chk5 p Y n sl r (b i) (v i) dd C' (.slice none 0 0) kp rm val _ HB1.out.px HB1.out.sy HL.out HV.out HB1.out.ar (HBV.out i HIM.out).1 (HBV.out i HIM.out).2 HLM.out.2.2.2.2 HB1.out.g0 HB1.out.g1)
          clear hloc hval
          go_wp2_with fail
          refine HC.out.mono ?_
          rintro e9 w3 ⟨rfl, hb9⟩
          have A7 := HA7.out.below hb9 HA7.out.lt
          have d0 : w3.cell? ⟨wr.heap.size, 0, none⟩ = some (.iface 181 (.pointer (some ⟨sl, 0, none⟩))) := by rw [A7.cell]; rfl
          have d1 : w3.cell? ⟨wr.heap.size, 1, none⟩ = some (.int .i32 (i : Int)) := by rw [A7.cell]; rfl
          have l7 := A7.lt
          have H3 := Lib.hid (HB1.out.below hb9 HNR.out)
          obtain ⟨x0, x1, z0, z1, zf0, zf1, lSS⟩ := H3.out.sr.room (show e < m by have := HK.out.1; omega)
          clear HC A7 hb9
          go_wp2_with fail
          go_roundw
          case rel => exact ⟨k + 1, e + 1, K ++ [i], C', kp, rm, by omega, by go_num, by go_num, by omega, Lib.hid (by
              have h := H3.out.put HK.out.1 HK.out.2.1 H0.out.2 (fun h => by rw [← HIJ.out, ← HD0.out] at h; omega)
              rw [← HE.out, ← HIJ.out, HDQ.out] at h
              exact h), Lib.hid (by have := HE.out; simp; omega)⟩
          case measure => simp [intOf]; omega
    · obtain rfl : k = L := by omega
      have hlt1 : ¬ (k : Int) < (k : Int) := by omega
      clear hlt
      have hec : (e : Int) ≤ (cap : Int) := by omega
      have r0 : wr.cell? ⟨r, 0, none⟩ = some (.slice none 0 0) := by rw [H.out.ar.cell]; rfl
      have r1 : wr.cell? ⟨r, 1, none⟩ = some (.bool kp) := by rw [H.out.ar.cell]; rfl
      have r2 : wr.cell? ⟨r, 2, none⟩ = some (.bool rm) := by rw [H.out.ar.cell]; rfl
      have rf0 := H.out.ar.frozen 0
      have lr := H.out.ar.lt
      go_wp2_with fail
      refine bodyPost_ret (v := .agg #[.slice (some ⟨S, 0, none⟩) e cap, .bool kp, .bool rm]) (by simp [results, Tryd.results14, go_sem, *]) rfl ?_
      have hne : ∀ x, x ≠ r → (wr.setCell ⟨r, 0, none⟩ (.slice (some ⟨S, 0, none⟩) e cap)).heap[x]? = wr.heap[x]? := fun x hx => Below.heap_setCell _ _ _ x (by simpa using hx)
      obtain ⟨h1, h2, h3, h4, h5, h6⟩ := H.out.z (w' := wr.setCell ⟨r, 0, none⟩ (.slice (some ⟨S, 0, none⟩) e cap)) ⟨(Below.refl 0 wr).setCell (Nat.zero_le _) _, fun x _ _ hr => hne x hr⟩ HNR.out
      refine ⟨K, C', kp, rm, by rw [← HE.out], H.out.si, h1, H.out.sy.of_block (hne Y (H.out.sy.ne H.out.ar (by decide)).symm), ?_, h3, h4, h5, h6⟩
      obtain ⟨cs, q1, q2, q3, _⟩ := h2
      exact ⟨cs, q1, q2, (fun q hq => by simp at hq), fun q _ hq => q3 q hq⟩
theorem SCP.alloc_x {p Y S n m L cap : Nat} {kd : Nat → Int} {b v : Nat → Nat} {dat : Nat → Value} {C : List Int} {J : List Nat} {w0 w : World} {f g : Nat → Bool → Bool → Ending} {e e' : Ending} (h : SCP p Y S n m L cap kd b v dat C J w0 f e w) {w' : World} (hb : Below w.heap.size w w') (he : ∀ k a c, e = f k a c → e' = g k a c) : SCP p Y S n m L cap kd b v dat C J w0 g e' w' := by
  obtain ⟨K, C', kp, rm, h0, h1, h2, h3, h4, h5, h6, h7, h8⟩ := h
  exact ⟨K, C', kp, rm, he _ _ _ h0, h1, h2.below hb, h3.below hb, h4.of_block (hb.block S h4.lt), h5.keep (KX.below hb), h6.trans (KZ.of_below hb), kept hb h7, kept hb h8⟩
set_option maxRecDepth 100000 in
theorem zscan (p Y S n m L cap : Nat) (kd : Nat → Int) (b v : Nat → Nat) (dat : Nat → Value) (C : List Int) (J : List Nat) (w0 : World) (h : Calls Tryd.prog 14 #[.pointer (some ⟨p, 0, none⟩), .slice (some ⟨S, 0, none⟩) L cap] w0 (SCP p Y S n m L cap kd b v dat C J w0 (fun e kp rm => .returned (.agg #[.slice (some ⟨S, 0, none⟩) e cap, .bool kp, .bool rm])))) :
    Calls Tryd.prog 8 #[.pointer (some ⟨p, 0, none⟩), .slice (some ⟨S, 0, none⟩) L cap] w0 (SCP p Y S n m L cap kd b v dat C J w0 (fun e kp rm => .returned (.tuple #[.slice (some ⟨S, 0, none⟩) e cap, .bool kp, .bool rm]))) := by
  have H := Lib.hid h
  clear h
  go_enter Tryd.func8, Tryd.ntmps8
  go_wp2_with fail
  refine H.out.mono ?_
  intro e w1 hq
  have hq' := hq
  obtain ⟨K, C', kp, rm, rfl, _⟩ := hq
  have HQ := Lib.hid hq'
  clear hq'
  go_wp2_with fail
  obtain ⟨U, hU⟩ : ∃ U, U = w1.alloc (.cells #[.slice (some ⟨S, 0, none⟩) K.length cap, .bool kp, .bool rm] 178) := ⟨_, rfl⟩
  have hat : At U w1.heap.size 178 #[.slice (some ⟨S, 0, none⟩) K.length cap, .bool kp, .bool rm] := by rw [hU]; exact At.new _ _ _
  have HB := Lib.hid (show Below w1.heap.size w1 U from by rw [hU]; exact (Below.refl _ _).alloc (Nat.le_refl _) _)
  rw [← hU]
  have x0 : U.cell? ⟨w1.heap.size, 0, none⟩ = some (.slice (some ⟨S, 0, none⟩) K.length cap) := by rw [hat.cell]; rfl
  have x1 : U.cell? ⟨w1.heap.size, 1, none⟩ = some (.bool kp) := by rw [hat.cell]; rfl
  have x2 : U.cell? ⟨w1.heap.size, 2, none⟩ = some (.bool rm) := by rw [hat.cell]; rfl
  have lx := hat.lt
  clear hU hat
  go_quiet (fail)
  go_wp2_with fail
  refine bodyPost_ret (v := .tuple #[.slice (some ⟨S, 0, none⟩) K.length cap, .bool kp, .bool rm]) (by simp [results, Tryd.results8, go_sem, *]) rfl ?_
  exact HQ.out.alloc_x (below_drewN HB.out _) (fun k a c he => by simpa using he)
end UX
end Go.Proofs.YthgcchgpplblbaaDoor
