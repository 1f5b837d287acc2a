/- Proved here: branches of PlatformIndependentPathDirBaseExt's contract. Condition: as stated. -/
import Derived.Test.YtoblkmnhoiodcaaDoorGIG1
import Derived.Test.YtoblkmnhoiodcaaDoorGIG2
namespace Go.Proofs.YtoblkmnhoiodcaaDoor
namespace IB
open Go.RowKit
set_option linter.unusedSimpArgs false
set_option linter.unusedVariables false
set_option maxRecDepth 100000 in
set_option maxHeartbeats 8000000 in
theorem pathBase (s : ByteArray) (w : World) (hs : s.size ≤ 1048576) (hT : Lib.Utf8Tabs 2 3 w) : Calls Tryd.prog 25 #[.string s] w (PDP s.size w) := by
  by_cases hz : s.size = 0
  · have HT := Lib.hid hT
    clear hT
    have hz' := hz
    go_enter Tryd.func25, Tryd.ntmps25
    go_wp2_with fail
    clear hz hz'
    go_loopw [0, 2, 3, 7] (fun v0 v2 v3 _ wr => PRel s.size w v0 v2 v3 wr) (fun v0 _ _ _ _ => strLen v0)
    case atStart => exact ⟨s, rfl, Nat.le_refl _, rfl, rfl, Below.refl _ _⟩
    case round =>
      obtain ⟨p, rfl, hp, rfl, rfl, hb⟩ := hrel
      have HA : Calls Tryd.prog 27 #[.string p, .string ⟨#[47, 92]⟩] wr (LAP p wr) := lastIndexAny p wr (by omega) (tabsBelow HT.out hb)
      go_wp2_with fail
      go_at_call 27
      refine HA.mono ?_
      rintro e V ⟨⟨k, rfl, k0, k1⟩, hV⟩
      have HBV := Lib.hid (hb.trans (hV.mono hb.size))
      clear hb hV HA
      by_cases hk : k < 0
      · go_wp2_with fail
        obtain ⟨bb, hbb⟩ : ∃ bb : ByteArray, bb = p := ⟨_, rfl⟩
        have hbs : bb.size ≤ s.size := by rw [hbb]; exact hp
        obtain ⟨dd, hdd⟩ : ∃ dd : ByteArray, dd = ⟨#[]⟩ := ⟨_, rfl⟩
        have hds : dd.size ≤ s.size := by rw [hdd]; exact Nat.zero_le _
        rw [← hbb]
        clear hbb
        subst hdd
        obtain ⟨i, i0, i1, HI⟩ := lib28 bb 46 (by omega)
        go_at_call 28
        refine (HI _).mono ?_
        rintro e W ⟨rfl, rfl⟩
        clear HI
        by_cases hi : 0 ≤ i
        · obtain ⟨m, rfl⟩ : ∃ m : Nat, i = m := ⟨i.toNat, by omega⟩
          obtain ⟨j, j0, j1, HJ⟩ := lib28 (bb.extract 0 m) 46 (by rw [ByteArray.size_extract]; omega)
          rw [ByteArray.size_extract] at j1
          obtain ⟨c, hc⟩ : ∃ c, ((bb.extract m bb.size).toList == [46, 99, 115, 115]) = c := ⟨_, rfl⟩
          cases c
          · go_wp2_with fail
            exact bodyPost_ret (v := .tuple #[.string ⟨#[]⟩, .string (bb.extract 0 m), .string (bb.extract m bb.size)]) (by simp [results, Tryd.results25, go_sem, *]) rfl ⟨⟨_, _, _, rfl, hds, by rw [ByteArray.size_extract]; omega, by rw [ByteArray.size_extract]; omega⟩, HBV.out⟩
          · go_wp2_with fail
            go_at_call 28
            refine (HJ _).mono ?_
            rintro e W ⟨rfl, rfl⟩
            clear HJ
            by_cases hj : 0 ≤ j
            · obtain ⟨l, rfl⟩ : ∃ l : Nat, j = l := ⟨j.toNat, by omega⟩
              obtain ⟨c2, hc2⟩ : ∃ c2, ((bb.extract l bb.size).toList == [46, 109, 111, 100, 117, 108, 101, 46, 99, 115, 115]) = c2 := ⟨_, rfl⟩
              cases c2
              · go_wp2_with fail
                exact bodyPost_ret (v := .tuple #[.string ⟨#[]⟩, .string (bb.extract 0 m), .string (bb.extract m bb.size)]) (by simp [results, Tryd.results25, go_sem, *]) rfl ⟨⟨_, _, _, rfl, hds, by rw [ByteArray.size_extract]; omega, by rw [ByteArray.size_extract]; omega⟩, HBV.out⟩
              · go_wp2_with fail
                exact bodyPost_ret (v := .tuple #[.string ⟨#[]⟩, .string (bb.extract 0 l), .string (bb.extract l bb.size)]) (by simp [results, Tryd.results25, go_sem, *]) rfl ⟨⟨_, _, _, rfl, hds, by rw [ByteArray.size_extract]; omega, by rw [ByteArray.size_extract]; omega⟩, HBV.out⟩
            · go_wp2_with fail
              exact bodyPost_ret (v := .tuple #[.string ⟨#[]⟩, .string (bb.extract 0 m), .string (bb.extract m bb.size)]) (by simp [results, Tryd.results25, go_sem, *]) rfl ⟨⟨_, _, _, rfl, hds, by rw [ByteArray.size_extract]; omega, by rw [ByteArray.size_extract]; omega⟩, HBV.out⟩
        · go_wp2_with fail
          exact bodyPost_ret (v := .tuple #[.string ⟨#[]⟩, .string bb, .string ⟨#[]⟩]) (by simp [results, Tryd.results25, go_sem, *]) rfl ⟨⟨_, _, _, rfl, hds, hbs, Nat.zero_le _⟩, HBV.out⟩
      · obtain ⟨q, rfl⟩ : ∃ q : Nat, k = q := ⟨k.toNat, by omega⟩
        have HBN := Lib.hid (fun n => below_drewN HBV.out n)
        have g1 : ((q : Int) == -1) = false := beq_eq_false_iff_ne.2 (by omega)
        by_cases hql : q + 1 = p.size
        · have g2 : ((q : Int) + 1 != (p.size : Int)) = false := by simp; omega
          go_wp2_with fail
          go_roundw
          case rel => exact ⟨p.extract 0 q, rfl, by rw [ByteArray.size_extract]; omega, rfl, rfl, HBV.out⟩
          case measure => simp only [strLen]; rw [ByteArray.size_extract]; omega
        · have g2 : ((q : Int) + 1 != (p.size : Int)) = true := by simp; omega
          go_wp2_with fail
          go_quiet (fail)
          go_wp2_with fail
          obtain ⟨bb, hbb⟩ : ∃ bb : ByteArray, bb = (p.extract (q + 1) p.size) := ⟨_, rfl⟩
          have hbs : bb.size ≤ s.size := by rw [hbb]; exact by rw [ByteArray.size_extract]; omega
          obtain ⟨dd, hdd⟩ : ∃ dd : ByteArray, dd = (p.extract 0 q) := ⟨_, rfl⟩
          have hds : dd.size ≤ s.size := by rw [hdd]; exact by rw [ByteArray.size_extract]; omega
          rw [← hbb, ← hdd]
          clear hbb hdd
          obtain ⟨i, i0, i1, HI⟩ := lib28 bb 46 (by omega)
          go_at_call 28
          refine (HI _).mono ?_
          rintro e W ⟨rfl, rfl⟩
          clear HI
          by_cases hi : 0 ≤ i
          · obtain ⟨m, rfl⟩ : ∃ m : Nat, i = m := ⟨i.toNat, by omega⟩
            obtain ⟨j, j0, j1, HJ⟩ := lib28 (bb.extract 0 m) 46 (by rw [ByteArray.size_extract]; omega)
            rw [ByteArray.size_extract] at j1
            obtain ⟨c, hc⟩ : ∃ c, ((bb.extract m bb.size).toList == [46, 99, 115, 115]) = c := ⟨_, rfl⟩
            cases c
            · go_wp2_with fail
              exact bodyPost_ret (v := .tuple #[.string dd, .string (bb.extract 0 m), .string (bb.extract m bb.size)]) (by simp [results, Tryd.results25, go_sem, *]) rfl ⟨⟨_, _, _, rfl, hds, by rw [ByteArray.size_extract]; omega, by rw [ByteArray.size_extract]; omega⟩, HBN.out _⟩
            · go_wp2_with fail
              go_at_call 28
              refine (HJ _).mono ?_
              rintro e W ⟨rfl, rfl⟩
              clear HJ
              by_cases hj : 0 ≤ j
              · obtain ⟨l, rfl⟩ : ∃ l : Nat, j = l := ⟨j.toNat, by omega⟩
                obtain ⟨c2, hc2⟩ : ∃ c2, ((bb.extract l bb.size).toList == [46, 109, 111, 100, 117, 108, 101, 46, 99, 115, 115]) = c2 := ⟨_, rfl⟩
                cases c2
                · go_wp2_with fail
                  exact bodyPost_ret (v := .tuple #[.string dd, .string (bb.extract 0 m), .string (bb.extract m bb.size)]) (by simp [results, Tryd.results25, go_sem, *]) rfl ⟨⟨_, _, _, rfl, hds, by rw [ByteArray.size_extract]; omega, by rw [ByteArray.size_extract]; omega⟩, HBN.out _⟩
                · go_wp2_with fail
                  exact bodyPost_ret (v := .tuple #[.string dd, .string (bb.extract 0 l), .string (bb.extract l bb.size)]) (by simp [results, Tryd.results25, go_sem, *]) rfl ⟨⟨_, _, _, rfl, hds, by rw [ByteArray.size_extract]; omega, by rw [ByteArray.size_extract]; omega⟩, HBN.out _⟩
              · go_wp2_with fail
                exact bodyPost_ret (v := .tuple #[.string dd, .string (bb.extract 0 m), .string (bb.extract m bb.size)]) (by simp [results, Tryd.results25, go_sem, *]) rfl ⟨⟨_, _, _, rfl, hds, by rw [ByteArray.size_extract]; omega, by rw [ByteArray.size_extract]; omega⟩, HBN.out _⟩
          · go_wp2_with fail
            exact bodyPost_ret (v := .tuple #[.string dd, .string bb, .string ⟨#[]⟩]) (by simp [results, Tryd.results25, go_sem, *]) rfl ⟨⟨_, _, _, rfl, hds, hbs, Nat.zero_le _⟩, HBN.out _⟩
  · have h0 : 0 < s.size := by omega
    obtain ⟨x, hx⟩ : ∃ x : UInt8, s[0]'h0 = x := ⟨_, rfl⟩
    have hxb := x.toNat_lt
    by_cases e1 : x.toNat = 47
    · have HT := Lib.hid hT
      clear hT
      have e1' : ((x.toNat : Int) == 47) = true := by rw [e1]; rfl
      go_enter Tryd.func25, Tryd.ntmps25
      go_wp2_with fail
      go_loopw [0, 2, 3, 7] (fun v0 v2 v3 _ wr => PRel s.size w v0 v2 v3 wr) (fun v0 _ _ _ _ => strLen v0)
      case atStart => exact ⟨s, rfl, Nat.le_refl _, rfl, rfl, Below.refl _ _⟩
      case round =>
        obtain ⟨p, rfl, hp, rfl, rfl, hb⟩ := hrel
        have HA : Calls Tryd.prog 27 #[.string p, .string ⟨#[47, 92]⟩] wr (LAP p wr) := lastIndexAny p wr (by omega) (tabsBelow HT.out hb)
        go_wp2_with fail
        go_at_call 27
        refine HA.mono ?_
        rintro e V ⟨⟨k, rfl, k0, k1⟩, hV⟩
        have HBV := Lib.hid (hb.trans (hV.mono hb.size))
        clear hb hV HA
        by_cases hk : k < 0
        · go_wp2_with fail
          obtain ⟨bb, hbb⟩ : ∃ bb : ByteArray, bb = p := ⟨_, rfl⟩
          have hbs : bb.size ≤ s.size := by rw [hbb]; exact hp
          obtain ⟨dd, hdd⟩ : ∃ dd : ByteArray, dd = ⟨#[]⟩ := ⟨_, rfl⟩
          have hds : dd.size ≤ s.size := by rw [hdd]; exact Nat.zero_le _
          rw [← hbb]
          clear hbb
          subst hdd
          obtain ⟨i, i0, i1, HI⟩ := lib28 bb 46 (by omega)
          go_at_call 28
          refine (HI _).mono ?_
          rintro e W ⟨rfl, rfl⟩
          clear HI
          by_cases hi : 0 ≤ i
          · obtain ⟨m, rfl⟩ : ∃ m : Nat, i = m := ⟨i.toNat, by omega⟩
            obtain ⟨j, j0, j1, HJ⟩ := lib28 (bb.extract 0 m) 46 (by rw [ByteArray.size_extract]; omega)
            rw [ByteArray.size_extract] at j1
            obtain ⟨c, hc⟩ : ∃ c, ((bb.extract m bb.size).toList == [46, 99, 115, 115]) = c := ⟨_, rfl⟩
            cases c
            · go_wp2_with fail
              exact bodyPost_ret (v := .tuple #[.string ⟨#[]⟩, .string (bb.extract 0 m), .string (bb.extract m bb.size)]) (by simp [results, Tryd.results25, go_sem, *]) rfl ⟨⟨_, _, _, rfl, hds, by rw [ByteArray.size_extract]; omega, by rw [ByteArray.size_extract]; omega⟩, HBV.out⟩
            · go_wp2_with fail
              go_at_call 28
              refine (HJ _).mono ?_
              rintro e W ⟨rfl, rfl⟩
              clear HJ
              by_cases hj : 0 ≤ j
              · obtain ⟨l, rfl⟩ : ∃ l : Nat, j = l := ⟨j.toNat, by omega⟩
                obtain ⟨c2, hc2⟩ : ∃ c2, ((bb.extract l bb.size).toList == [46, 109, 111, 100, 117, 108, 101, 46, 99, 115, 115]) = c2 := ⟨_, rfl⟩
                cases c2
                · go_wp2_with fail
                  exact bodyPost_ret (v := .tuple #[.string ⟨#[]⟩, .string (bb.extract 0 m), .string (bb.extract m bb.size)]) (by simp [results, Tryd.results25, go_sem, *]) rfl ⟨⟨_, _, _, rfl, hds, by rw [ByteArray.size_extract]; omega, by rw [ByteArray.size_extract]; omega⟩, HBV.out⟩
                · go_wp2_with fail
                  exact bodyPost_ret (v := .tuple #[.string ⟨#[]⟩, .string (bb.extract 0 l), .string (bb.extract l bb.size)]) (by simp [results, Tryd.results25, go_sem, *]) rfl ⟨⟨_, _, _, rfl, hds, by rw [ByteArray.size_extract]; omega, by rw [ByteArray.size_extract]; omega⟩, HBV.out⟩
              · go_wp2_with fail
                exact bodyPost_ret (v := .tuple #[.string ⟨#[]⟩, .string (bb.extract 0 m), .string (bb.extract m bb.size)]) (by simp [results, Tryd.results25, go_sem, *]) rfl ⟨⟨_, _, _, rfl, hds, by rw [ByteArray.size_extract]; omega, by rw [ByteArray.size_extract]; omega⟩, HBV.out⟩
          · go_wp2_with fail
            exact bodyPost_ret (v := .tuple #[.string ⟨#[]⟩, .string bb, .string ⟨#[]⟩]) (by simp [results, Tryd.results25, go_sem, *]) rfl ⟨⟨_, _, _, rfl, hds, hbs, Nat.zero_le _⟩, HBV.out⟩
        · obtain ⟨q, rfl⟩ : ∃ q : Nat, k = q := ⟨k.toNat, by omega⟩
          have HBN := Lib.hid (fun n => below_drewN HBV.out n)
          by_cases hqa : q = 0
          · subst hqa
            go_wp2_with fail
            go_quiet (fail)
            go_wp2_with fail
            obtain ⟨bb, hbb⟩ : ∃ bb : ByteArray, bb = (p.extract 1 p.size) := ⟨_, rfl⟩
            have hbs : bb.size ≤ s.size := by rw [hbb]; exact by rw [ByteArray.size_extract]; omega
            obtain ⟨dd, hdd⟩ : ∃ dd : ByteArray, dd = (p.extract 0 1) := ⟨_, rfl⟩
            have hds : dd.size ≤ s.size := by rw [hdd]; exact by rw [ByteArray.size_extract]; omega
            rw [← hbb, ← hdd]
            clear hbb hdd
            obtain ⟨i, i0, i1, HI⟩ := lib28 bb 46 (by omega)
            go_at_call 28
            refine (HI _).mono ?_
            rintro e W ⟨rfl, rfl⟩
            clear HI
            by_cases hi : 0 ≤ i
            · obtain ⟨m, rfl⟩ : ∃ m : Nat, i = m := ⟨i.toNat, by omega⟩
              obtain ⟨j, j0, j1, HJ⟩ := lib28 (bb.extract 0 m) 46 (by rw [ByteArray.size_extract]; omega)
              rw [ByteArray.size_extract] at j1
              obtain ⟨c, hc⟩ : ∃ c, ((bb.extract m bb.size).toList == [46, 99, 115, 115]) = c := ⟨_, rfl⟩
              cases c
              · go_wp2_with fail
                exact bodyPost_ret (v := .tuple #[.string dd, .string (bb.extract 0 m), .string (bb.extract m bb.size)]) (by simp [results, Tryd.results25, go_sem, *]) rfl ⟨⟨_, _, _, rfl, hds, by rw [ByteArray.size_extract]; omega, by rw [ByteArray.size_extract]; omega⟩, HBN.out _⟩
              · go_wp2_with fail
                go_at_call 28
                refine (HJ _).mono ?_
                rintro e W ⟨rfl, rfl⟩
                clear HJ
                by_cases hj : 0 ≤ j
                · obtain ⟨l, rfl⟩ : ∃ l : Nat, j = l := ⟨j.toNat, by omega⟩
                  obtain ⟨c2, hc2⟩ : ∃ c2, ((bb.extract l bb.size).toList == [46, 109, 111, 100, 117, 108, 101, 46, 99, 115, 115]) = c2 := ⟨_, rfl⟩
                  cases c2
                  · go_wp2_with fail
                    exact bodyPost_ret (v := .tuple #[.string dd, .string (bb.extract 0 m), .string (bb.extract m bb.size)]) (by simp [results, Tryd.results25, go_sem, *]) rfl ⟨⟨_, _, _, rfl, hds, by rw [ByteArray.size_extract]; omega, by rw [ByteArray.size_extract]; omega⟩, HBN.out _⟩
                  · go_wp2_with fail
                    exact bodyPost_ret (v := .tuple #[.string dd, .string (bb.extract 0 l), .string (bb.extract l bb.size)]) (by simp [results, Tryd.results25, go_sem, *]) rfl ⟨⟨_, _, _, rfl, hds, by rw [ByteArray.size_extract]; omega, by rw [ByteArray.size_extract]; omega⟩, HBN.out _⟩
                · go_wp2_with fail
                  exact bodyPost_ret (v := .tuple #[.string dd, .string (bb.extract 0 m), .string (bb.extract m bb.size)]) (by simp [results, Tryd.results25, go_sem, *]) rfl ⟨⟨_, _, _, rfl, hds, by rw [ByteArray.size_extract]; omega, by rw [ByteArray.size_extract]; omega⟩, HBN.out _⟩
            · go_wp2_with fail
              exact bodyPost_ret (v := .tuple #[.string dd, .string bb, .string ⟨#[]⟩]) (by simp [results, Tryd.results25, go_sem, *]) rfl ⟨⟨_, _, _, rfl, hds, hbs, Nat.zero_le _⟩, HBN.out _⟩
          · have g1 : ((q : Int) == 0) = false := beq_eq_false_iff_ne.2 (by omega)
            by_cases hql : q + 1 = p.size
            · have g2 : ((q : Int) + 1 != (p.size : Int)) = false := by simp; omega
              go_wp2_with fail
              go_roundw
              case rel => exact ⟨p.extract 0 q, rfl, by rw [ByteArray.size_extract]; omega, rfl, rfl, HBV.out⟩
              case measure => simp only [strLen]; rw [ByteArray.size_extract]; omega
            · have g2 : ((q : Int) + 1 != (p.size : Int)) = true := by simp; omega
              go_wp2_with fail
              go_quiet (fail)
              go_wp2_with fail
              obtain ⟨bb, hbb⟩ : ∃ bb : ByteArray, bb = (p.extract (q + 1) p.size) := ⟨_, rfl⟩
              have hbs : bb.size ≤ s.size := by rw [hbb]; exact by rw [ByteArray.size_extract]; omega
              obtain ⟨dd, hdd⟩ : ∃ dd : ByteArray, dd = (p.extract 0 q) := ⟨_, rfl⟩
              have hds : dd.size ≤ s.size := by rw [hdd]; exact by rw [ByteArray.size_extract]; omega
              rw [← hbb, ← hdd]
              clear hbb hdd
              obtain ⟨i, i0, i1, HI⟩ := lib28 bb 46 (by omega)
              go_at_call 28
              refine (HI _).mono ?_
              rintro e W ⟨rfl, rfl⟩
              clear HI
              by_cases hi : 0 ≤ i
              · obtain ⟨m, rfl⟩ : ∃ m : Nat, i = m := ⟨i.toNat, by omega⟩
                obtain ⟨j, j0, j1, HJ⟩ := lib28 (bb.extract 0 m) 46 (by rw [ByteArray.size_extract]; omega)
                rw [ByteArray.size_extract] at j1
                obtain ⟨c, hc⟩ : ∃ c, ((bb.extract m bb.size).toList == [46, 99, 115, 115]) = c := ⟨_, rfl⟩
                cases c
                · go_wp2_with fail
                  exact bodyPost_ret (v := .tuple #[.string dd, .string (bb.extract 0 m), .string (bb.extract m bb.size)]) (by simp [results, Tryd.results25, go_sem, *]) rfl ⟨⟨_, _, _, rfl, hds, by rw [ByteArray.size_extract]; omega, by rw [ByteArray.size_extract]; omega⟩, HBN.out _⟩
                · go_wp2_with fail
                  go_at_call 28
                  refine (HJ _).mono ?_
                  rintro e W ⟨rfl, rfl⟩
                  clear HJ
                  by_cases hj : 0 ≤ j
                  · obtain ⟨l, rfl⟩ : ∃ l : Nat, j = l := ⟨j.toNat, by omega⟩
                    obtain ⟨c2, hc2⟩ : ∃ c2, ((bb.extract l bb.size).toList == [46, 109, 111, 100, 117, 108, 101, 46, 99, 115, 115]) = c2 := ⟨_, rfl⟩
                    cases c2
                    · go_wp2_with fail
                      exact bodyPost_ret (v := .tuple #[.string dd, .string (bb.extract 0 m), .string (bb.extract m bb.size)]) (by simp [results, Tryd.results25, go_sem, *]) rfl ⟨⟨_, _, _, rfl, hds, by rw [ByteArray.size_extract]; omega, by rw [ByteArray.size_extract]; omega⟩, HBN.out _⟩
                    · go_wp2_with fail
                      exact bodyPost_ret (v := .tuple #[.string dd, .string (bb.extract 0 l), .string (bb.extract l bb.size)]) (by simp [results, Tryd.results25, go_sem, *]) rfl ⟨⟨_, _, _, rfl, hds, by rw [ByteArray.size_extract]; omega, by rw [ByteArray.size_extract]; omega⟩, HBN.out _⟩
                  · go_wp2_with fail
                    exact bodyPost_ret (v := .tuple #[.string dd, .string (bb.extract 0 m), .string (bb.extract m bb.size)]) (by simp [results, Tryd.results25, go_sem, *]) rfl ⟨⟨_, _, _, rfl, hds, by rw [ByteArray.size_extract]; omega, by rw [ByteArray.size_extract]; omega⟩, HBN.out _⟩
              · go_wp2_with fail
                exact bodyPost_ret (v := .tuple #[.string dd, .string bb, .string ⟨#[]⟩]) (by simp [results, Tryd.results25, go_sem, *]) rfl ⟨⟨_, _, _, rfl, hds, hbs, Nat.zero_le _⟩, HBN.out _⟩
    · by_cases e2 : x.toNat = 92
      · have HT := Lib.hid hT
        clear hT
        have f_x_47 : ((x.toNat : Int) == 47) = false := beq_eq_false_iff_ne.2 (by omega)
        have f_x_92 : ((x.toNat : Int) == 92) = true := beq_iff_eq.2 (by omega)
        go_enter Tryd.func25, Tryd.ntmps25
        go_wp2_with fail
        go_loopw [0, 2, 3, 7] (fun v0 v2 v3 _ wr => PRel s.size w v0 v2 v3 wr) (fun v0 _ _ _ _ => strLen v0)
        case atStart => exact ⟨s, rfl, Nat.le_refl _, rfl, rfl, Below.refl _ _⟩
        case round =>
          obtain ⟨p, rfl, hp, rfl, rfl, hb⟩ := hrel
          have HA : Calls Tryd.prog 27 #[.string p, .string ⟨#[47, 92]⟩] wr (LAP p wr) := lastIndexAny p wr (by omega) (tabsBelow HT.out hb)
          go_wp2_with fail
          go_at_call 27
          refine HA.mono ?_
          rintro e V ⟨⟨k, rfl, k0, k1⟩, hV⟩
          have HBV := Lib.hid (hb.trans (hV.mono hb.size))
          clear hb hV HA
          by_cases hk : k < 0
          · go_wp2_with fail
            obtain ⟨bb, hbb⟩ : ∃ bb : ByteArray, bb = p := ⟨_, rfl⟩
            have hbs : bb.size ≤ s.size := by rw [hbb]; exact hp
            obtain ⟨dd, hdd⟩ : ∃ dd : ByteArray, dd = ⟨#[]⟩ := ⟨_, rfl⟩
            have hds : dd.size ≤ s.size := by rw [hdd]; exact Nat.zero_le _
            rw [← hbb]
            clear hbb
            subst hdd
            obtain ⟨i, i0, i1, HI⟩ := lib28 bb 46 (by omega)
            go_at_call 28
            refine (HI _).mono ?_
            rintro e W ⟨rfl, rfl⟩
            clear HI
            by_cases hi : 0 ≤ i
            · obtain ⟨m, rfl⟩ : ∃ m : Nat, i = m := ⟨i.toNat, by omega⟩
              obtain ⟨j, j0, j1, HJ⟩ := lib28 (bb.extract 0 m) 46 (by rw [ByteArray.size_extract]; omega)
              rw [ByteArray.size_extract] at j1
              obtain ⟨c, hc⟩ : ∃ c, ((bb.extract m bb.size).toList == [46, 99, 115, 115]) = c := ⟨_, rfl⟩
              cases c
              · go_wp2_with fail
                exact bodyPost_ret (v := .tuple #[.string ⟨#[]⟩, .string (bb.extract 0 m), .string (bb.extract m bb.size)]) (by simp [results, Tryd.results25, go_sem, *]) rfl ⟨⟨_, _, _, rfl, hds, by rw [ByteArray.size_extract]; omega, by rw [ByteArray.size_extract]; omega⟩, HBV.out⟩
              · go_wp2_with fail
                go_at_call 28
                refine (HJ _).mono ?_
                rintro e W ⟨rfl, rfl⟩
                clear HJ
                by_cases hj : 0 ≤ j
                · obtain ⟨l, rfl⟩ : ∃ l : Nat, j = l := ⟨j.toNat, by omega⟩
                  obtain ⟨c2, hc2⟩ : ∃ c2, ((bb.extract l bb.size).toList == [46, 109, 111, 100, 117, 108, 101, 46, 99, 115, 115]) = c2 := ⟨_, rfl⟩
                  cases c2
                  · go_wp2_with fail
                    exact bodyPost_ret (v := .tuple #[.string ⟨#[]⟩, .string (bb.extract 0 m), .string (bb.extract m bb.size)]) (by simp [results, Tryd.results25, go_sem, *]) rfl ⟨⟨_, _, _, rfl, hds, by rw [ByteArray.size_extract]; omega, by rw [ByteArray.size_extract]; omega⟩, HBV.out⟩
                  · go_wp2_with fail
                    exact bodyPost_ret (v := .tuple #[.string ⟨#[]⟩, .string (bb.extract 0 l), .string (bb.extract l bb.size)]) (by simp [results, Tryd.results25, go_sem, *]) rfl ⟨⟨_, _, _, rfl, hds, by rw [ByteArray.size_extract]; omega, by rw [ByteArray.size_extract]; omega⟩, HBV.out⟩
                · go_wp2_with fail
                  exact bodyPost_ret (v := .tuple #[.string ⟨#[]⟩, .string (bb.extract 0 m), .string (bb.extract m bb.size)]) (by simp [results, Tryd.results25, go_sem, *]) rfl ⟨⟨_, _, _, rfl, hds, by rw [ByteArray.size_extract]; omega, by rw [ByteArray.size_extract]; omega⟩, HBV.out⟩
            · go_wp2_with fail
              exact bodyPost_ret (v := .tuple #[.string ⟨#[]⟩, .string bb, .string ⟨#[]⟩]) (by simp [results, Tryd.results25, go_sem, *]) rfl ⟨⟨_, _, _, rfl, hds, hbs, Nat.zero_le _⟩, HBV.out⟩
          · obtain ⟨q, rfl⟩ : ∃ q : Nat, k = q := ⟨k.toNat, by omega⟩
            have HBN := Lib.hid (fun n => below_drewN HBV.out n)
            by_cases hqa : q = 0
            · subst hqa
              go_wp2_with fail
              go_quiet (fail)
              go_wp2_with fail
              obtain ⟨bb, hbb⟩ : ∃ bb : ByteArray, bb = (p.extract 1 p.size) := ⟨_, rfl⟩
              have hbs : bb.size ≤ s.size := by rw [hbb]; exact by rw [ByteArray.size_extract]; omega
              obtain ⟨dd, hdd⟩ : ∃ dd : ByteArray, dd = (p.extract 0 1) := ⟨_, rfl⟩
              have hds : dd.size ≤ s.size := by rw [hdd]; exact by rw [ByteArray.size_extract]; omega
              rw [← hbb, ← hdd]
              clear hbb hdd
              obtain ⟨i, i0, i1, HI⟩ := lib28 bb 46 (by omega)
              go_at_call 28
              refine (HI _).mono ?_
              rintro e W ⟨rfl, rfl⟩
              clear HI
              by_cases hi : 0 ≤ i
              · obtain ⟨m, rfl⟩ : ∃ m : Nat, i = m := ⟨i.toNat, by omega⟩
                obtain ⟨j, j0, j1, HJ⟩ := lib28 (bb.extract 0 m) 46 (by rw [ByteArray.size_extract]; omega)
                rw [ByteArray.size_extract] at j1
                obtain ⟨c, hc⟩ : ∃ c, ((bb.extract m bb.size).toList == [46, 99, 115, 115]) = c := ⟨_, rfl⟩
                cases c
                · go_wp2_with fail
                  exact bodyPost_ret (v := .tuple #[.string dd, .string (bb.extract 0 m), .string (bb.extract m bb.size)]) (by simp [results, Tryd.results25, go_sem, *]) rfl ⟨⟨_, _, _, rfl, hds, by rw [ByteArray.size_extract]; omega, by rw [ByteArray.size_extract]; omega⟩, HBN.out _⟩
                · go_wp2_with fail
                  go_at_call 28
                  refine (HJ _).mono ?_
                  rintro e W ⟨rfl, rfl⟩
                  clear HJ
                  by_cases hj : 0 ≤ j
                  · obtain ⟨l, rfl⟩ : ∃ l : Nat, j = l := ⟨j.toNat, by omega⟩
                    obtain ⟨c2, hc2⟩ : ∃ c2, ((bb.extract l bb.size).toList == [46, 109, 111, 100, 117, 108, 101, 46, 99, 115, 115]) = c2 := ⟨_, rfl⟩
                    cases c2
                    · go_wp2_with fail
                      exact bodyPost_ret (v := .tuple #[.string dd, .string (bb.extract 0 m), .string (bb.extract m bb.size)]) (by simp [results, Tryd.results25, go_sem, *]) rfl ⟨⟨_, _, _, rfl, hds, by rw [ByteArray.size_extract]; omega, by rw [ByteArray.size_extract]; omega⟩, HBN.out _⟩
                    · go_wp2_with fail
                      exact bodyPost_ret (v := .tuple #[.string dd, .string (bb.extract 0 l), .string (bb.extract l bb.size)]) (by simp [results, Tryd.results25, go_sem, *]) rfl ⟨⟨_, _, _, rfl, hds, by rw [ByteArray.size_extract]; omega, by rw [ByteArray.size_extract]; omega⟩, HBN.out _⟩
                  · go_wp2_with fail
                    exact bodyPost_ret (v := .tuple #[.string dd, .string (bb.extract 0 m), .string (bb.extract m bb.size)]) (by simp [results, Tryd.results25, go_sem, *]) rfl ⟨⟨_, _, _, rfl, hds, by rw [ByteArray.size_extract]; omega, by rw [ByteArray.size_extract]; omega⟩, HBN.out _⟩
              · go_wp2_with fail
                exact bodyPost_ret (v := .tuple #[.string dd, .string bb, .string ⟨#[]⟩]) (by simp [results, Tryd.results25, go_sem, *]) rfl ⟨⟨_, _, _, rfl, hds, hbs, Nat.zero_le _⟩, HBN.out _⟩
            · have g1 : ((q : Int) == 0) = false := beq_eq_false_iff_ne.2 (by omega)
              by_cases hql : q + 1 = p.size
              · have g2 : ((q : Int) + 1 != (p.size : Int)) = false := by simp; omega
                go_wp2_with fail
                go_roundw
                case rel => exact ⟨p.extract 0 q, rfl, by rw [ByteArray.size_extract]; omega, rfl, rfl, HBV.out⟩
                case measure => simp only [strLen]; rw [ByteArray.size_extract]; omega
              · have g2 : ((q : Int) + 1 != (p.size : Int)) = true := by simp; omega
                go_wp2_with fail
                go_quiet (fail)
                go_wp2_with fail
                obtain ⟨bb, hbb⟩ : ∃ bb : ByteArray, bb = (p.extract (q + 1) p.size) := ⟨_, rfl⟩
                have hbs : bb.size ≤ s.size := by rw [hbb]; exact by rw [ByteArray.size_extract]; omega
                obtain ⟨dd, hdd⟩ : ∃ dd : ByteArray, dd = (p.extract 0 q) := ⟨_, rfl⟩
                have hds : dd.size ≤ s.size := by rw [hdd]; exact by rw [ByteArray.size_extract]; omega
                rw [← hbb, ← hdd]
                clear hbb hdd
                obtain ⟨i, i0, i1, HI⟩ := lib28 bb 46 (by omega)
                go_at_call 28
                refine (HI _).mono ?_
                rintro e W ⟨rfl, rfl⟩
                clear HI
                by_cases hi : 0 ≤ i
                · obtain ⟨m, rfl⟩ : ∃ m : Nat, i = m := ⟨i.toNat, by omega⟩
                  obtain ⟨j, j0, j1, HJ⟩ := lib28 (bb.extract 0 m) 46 (by rw [ByteArray.size_extract]; omega)
                  rw [ByteArray.size_extract] at j1
                  obtain ⟨c, hc⟩ : ∃ c, ((bb.extract m bb.size).toList == [46, 99, 115, 115]) = c := ⟨_, rfl⟩
                  cases c
                  · go_wp2_with fail
                    exact bodyPost_ret (v := .tuple #[.string dd, .string (bb.extract 0 m), .string (bb.extract m bb.size)]) (by simp [results, Tryd.results25, go_sem, *]) rfl ⟨⟨_, _, _, rfl, hds, by rw [ByteArray.size_extract]; omega, by rw [ByteArray.size_extract]; omega⟩, HBN.out _⟩
                  · go_wp2_with fail
                    go_at_call 28
                    refine (HJ _).mono ?_
                    rintro e W ⟨rfl, rfl⟩
                    clear HJ
                    by_cases hj : 0 ≤ j
                    · obtain ⟨l, rfl⟩ : ∃ l : Nat, j = l := ⟨j.toNat, by omega⟩
                      obtain ⟨c2, hc2⟩ : ∃ c2, ((bb.extract l bb.size).toList == [46, 109, 111, 100, 117, 108, 101, 46, 99, 115, 115]) = c2 := ⟨_, rfl⟩
                      cases c2
                      · go_wp2_with fail
                        exact bodyPost_ret (v := .tuple #[.string dd, .string (bb.extract 0 m), .string (bb.extract m bb.size)]) (by simp [results, Tryd.results25, go_sem, *]) rfl ⟨⟨_, _, _, rfl, hds, by rw [ByteArray.size_extract]; omega, by rw [ByteArray.size_extract]; omega⟩, HBN.out _⟩
                      · go_wp2_with fail
                        exact bodyPost_ret (v := .tuple #[.string dd, .string (bb.extract 0 l), .string (bb.extract l bb.size)]) (by simp [results, Tryd.results25, go_sem, *]) rfl ⟨⟨_, _, _, rfl, hds, by rw [ByteArray.size_extract]; omega, by rw [ByteArray.size_extract]; omega⟩, HBN.out _⟩
                    · go_wp2_with fail
                      exact bodyPost_ret (v := .tuple #[.string dd, .string (bb.extract 0 m), .string (bb.extract m bb.size)]) (by simp [results, Tryd.results25, go_sem, *]) rfl ⟨⟨_, _, _, rfl, hds, by rw [ByteArray.size_extract]; omega, by rw [ByteArray.size_extract]; omega⟩, HBN.out _⟩
                · go_wp2_with fail
                  exact bodyPost_ret (v := .tuple #[.string dd, .string bb, .string ⟨#[]⟩]) (by simp [results, Tryd.results25, go_sem, *]) rfl ⟨⟨_, _, _, rfl, hds, hbs, Nat.zero_le _⟩, HBN.out _⟩
      · by_cases h2 : 2 < s.size
        · have h1 : 1 < s.size := by omega
          obtain ⟨y, hy⟩ : ∃ y : UInt8, s[1]'h1 = y := ⟨_, rfl⟩
          obtain ⟨z, hw⟩ : ∃ z : UInt8, s[2]'h2 = z := ⟨_, rfl⟩
          have hyb := y.toNat_lt
          have hzb := z.toNat_lt
          by_cases e3 : y.toNat = 58
          · by_cases e4 : z.toNat = 47
            · exact pbA s w hs hT h0 h1 h2 x y z hx hy hw hxb hyb hzb e1 e2 e3 e4
            · by_cases e5 : z.toNat = 92
              · exact pbB s w hs hT h0 h1 h2 x y z hx hy hw hxb hyb hzb e1 e2 e3 e4 e5
              · have HT := Lib.hid hT
                clear hT
                have f_x_47 : ((x.toNat : Int) == 47) = false := beq_eq_false_iff_ne.2 (by omega)
                have f_x_92 : ((x.toNat : Int) == 92) = false := beq_eq_false_iff_ne.2 (by omega)
                have f_y_58 : ((y.toNat : Int) == 58) = true := beq_iff_eq.2 (by omega)
                have f_z_47 : ((z.toNat : Int) == 47) = false := beq_eq_false_iff_ne.2 (by omega)
                have f_z_92 : ((z.toNat : Int) == 92) = false := beq_eq_false_iff_ne.2 (by omega)
                clear e1 e2
                go_enter Tryd.func25, Tryd.ntmps25
                go_wp2_with fail
                go_loopw [0, 2, 3, 7] (fun v0 v2 v3 _ wr => PRel s.size w v0 v2 v3 wr) (fun v0 _ _ _ _ => strLen v0)
                case atStart => exact ⟨s, rfl, Nat.le_refl _, rfl, rfl, Below.refl _ _⟩
                case round =>
                  obtain ⟨p, rfl, hp, rfl, rfl, hb⟩ := hrel
                  have HA : Calls Tryd.prog 27 #[.string p, .string ⟨#[47, 92]⟩] wr (LAP p wr) := lastIndexAny p wr (by omega) (tabsBelow HT.out hb)
                  go_wp2_with fail
                  go_at_call 27
                  refine HA.mono ?_
                  rintro e V ⟨⟨k, rfl, k0, k1⟩, hV⟩
                  have HBV := Lib.hid (hb.trans (hV.mono hb.size))
                  clear hb hV HA
                  by_cases hk : k < 0
                  · go_wp2_with fail
                    obtain ⟨bb, hbb⟩ : ∃ bb : ByteArray, bb = p := ⟨_, rfl⟩
                    have hbs : bb.size ≤ s.size := by rw [hbb]; exact hp
                    obtain ⟨dd, hdd⟩ : ∃ dd : ByteArray, dd = ⟨#[]⟩ := ⟨_, rfl⟩
                    have hds : dd.size ≤ s.size := by rw [hdd]; exact Nat.zero_le _
                    rw [← hbb]
                    clear hbb
                    subst hdd
                    obtain ⟨i, i0, i1, HI⟩ := lib28 bb 46 (by omega)
                    go_at_call 28
                    refine (HI _).mono ?_
                    rintro e W ⟨rfl, rfl⟩
                    clear HI
                    by_cases hi : 0 ≤ i
                    · obtain ⟨m, rfl⟩ : ∃ m : Nat, i = m := ⟨i.toNat, by omega⟩
                      obtain ⟨j, j0, j1, HJ⟩ := lib28 (bb.extract 0 m) 46 (by rw [ByteArray.size_extract]; omega)
                      rw [ByteArray.size_extract] at j1
                      obtain ⟨c, hc⟩ : ∃ c, ((bb.extract m bb.size).toList == [46, 99, 115, 115]) = c := ⟨_, rfl⟩
                      cases c
                      · go_wp2_with fail
                        exact bodyPost_ret (v := .tuple #[.string ⟨#[]⟩, .string (bb.extract 0 m), .string (bb.extract m bb.size)]) (by simp [results, Tryd.results25, go_sem, *]) rfl ⟨⟨_, _, _, rfl, hds, by rw [ByteArray.size_extract]; omega, by rw [ByteArray.size_extract]; omega⟩, HBV.out⟩
                      · go_wp2_with fail
                        go_at_call 28
                        refine (HJ _).mono ?_
                        rintro e W ⟨rfl, rfl⟩
                        clear HJ
                        by_cases hj : 0 ≤ j
                        · obtain ⟨l, rfl⟩ : ∃ l : Nat, j = l := ⟨j.toNat, by omega⟩
                          obtain ⟨c2, hc2⟩ : ∃ c2, ((bb.extract l bb.size).toList == [46, 109, 111, 100, 117, 108, 101, 46, 99, 115, 115]) = c2 := ⟨_, rfl⟩
                          cases c2
                          · go_wp2_with fail
                            exact bodyPost_ret (v := .tuple #[.string ⟨#[]⟩, .string (bb.extract 0 m), .string (bb.extract m bb.size)]) (by simp [results, Tryd.results25, go_sem, *]) rfl ⟨⟨_, _, _, rfl, hds, by rw [ByteArray.size_extract]; omega, by rw [ByteArray.size_extract]; omega⟩, HBV.out⟩
                          · go_wp2_with fail
                            exact bodyPost_ret (v := .tuple #[.string ⟨#[]⟩, .string (bb.extract 0 l), .string (bb.extract l bb.size)]) (by simp [results, Tryd.results25, go_sem, *]) rfl ⟨⟨_, _, _, rfl, hds, by rw [ByteArray.size_extract]; omega, by rw [ByteArray.size_extract]; omega⟩, HBV.out⟩
                        · go_wp2_with fail
                          exact bodyPost_ret (v := .tuple #[.string ⟨#[]⟩, .string (bb.extract 0 m), .string (bb.extract m bb.size)]) (by simp [results, Tryd.results25, go_sem, *]) rfl ⟨⟨_, _, _, rfl, hds, by rw [ByteArray.size_extract]; omega, by rw [ByteArray.size_extract]; omega⟩, HBV.out⟩
                    · go_wp2_with fail
                      exact bodyPost_ret (v := .tuple #[.string ⟨#[]⟩, .string bb, .string ⟨#[]⟩]) (by simp [results, Tryd.results25, go_sem, *]) rfl ⟨⟨_, _, _, rfl, hds, hbs, Nat.zero_le _⟩, HBV.out⟩
                  · obtain ⟨q, rfl⟩ : ∃ q : Nat, k = q := ⟨k.toNat, by omega⟩
                    have HBN := Lib.hid (fun n => below_drewN HBV.out n)
                    have g1 : ((q : Int) == -1) = false := beq_eq_false_iff_ne.2 (by omega)
                    by_cases hql : q + 1 = p.size
                    · have g2 : ((q : Int) + 1 != (p.size : Int)) = false := by simp; omega
                      go_wp2_with fail
                      go_roundw
                      case rel => exact ⟨p.extract 0 q, rfl, by rw [ByteArray.size_extract]; omega, rfl, rfl, HBV.out⟩
                      case measure => simp only [strLen]; rw [ByteArray.size_extract]; omega
                    · have g2 : ((q : Int) + 1 != (p.size : Int)) = true := by simp; omega
                      go_wp2_with fail
                      go_quiet (fail)
                      go_wp2_with fail
                      obtain ⟨bb, hbb⟩ : ∃ bb : ByteArray, bb = (p.extract (q + 1) p.size) := ⟨_, rfl⟩
                      have hbs : bb.size ≤ s.size := by rw [hbb]; exact by rw [ByteArray.size_extract]; omega
                      obtain ⟨dd, hdd⟩ : ∃ dd : ByteArray, dd = (p.extract 0 q) := ⟨_, rfl⟩
                      have hds : dd.size ≤ s.size := by rw [hdd]; exact by rw [ByteArray.size_extract]; omega
                      rw [← hbb, ← hdd]
                      clear hbb hdd
                      obtain ⟨i, i0, i1, HI⟩ := lib28 bb 46 (by omega)
                      go_at_call 28
                      refine (HI _).mono ?_
                      rintro e W ⟨rfl, rfl⟩
                      clear HI
                      by_cases hi : 0 ≤ i
                      · obtain ⟨m, rfl⟩ : ∃ m : Nat, i = m := ⟨i.toNat, by omega⟩
                        obtain ⟨j, j0, j1, HJ⟩ := lib28 (bb.extract 0 m) 46 (by rw [ByteArray.size_extract]; omega)
                        rw [ByteArray.size_extract] at j1
                        obtain ⟨c, hc⟩ : ∃ c, ((bb.extract m bb.size).toList == [46, 99, 115, 115]) = c := ⟨_, rfl⟩
                        cases c
                        · go_wp2_with fail
                          exact bodyPost_ret (v := .tuple #[.string dd, .string (bb.extract 0 m), .string (bb.extract m bb.size)]) (by simp [results, Tryd.results25, go_sem, *]) rfl ⟨⟨_, _, _, rfl, hds, by rw [ByteArray.size_extract]; omega, by rw [ByteArray.size_extract]; omega⟩, HBN.out _⟩
                        · go_wp2_with fail
                          go_at_call 28
                          refine (HJ _).mono ?_
                          rintro e W ⟨rfl, rfl⟩
                          clear HJ
                          by_cases hj : 0 ≤ j
                          · obtain ⟨l, rfl⟩ : ∃ l : Nat, j = l := ⟨j.toNat, by omega⟩
                            obtain ⟨c2, hc2⟩ : ∃ c2, ((bb.extract l bb.size).toList == [46, 109, 111, 100, 117, 108, 101, 46, 99, 115, 115]) = c2 := ⟨_, rfl⟩
                            cases c2
                            · go_wp2_with fail
                              exact bodyPost_ret (v := .tuple #[.string dd, .string (bb.extract 0 m), .string (bb.extract m bb.size)]) (by simp [results, Tryd.results25, go_sem, *]) rfl ⟨⟨_, _, _, rfl, hds, by rw [ByteArray.size_extract]; omega, by rw [ByteArray.size_extract]; omega⟩, HBN.out _⟩
                            · go_wp2_with fail
                              exact bodyPost_ret (v := .tuple #[.string dd, .string (bb.extract 0 l), .string (bb.extract l bb.size)]) (by simp [results, Tryd.results25, go_sem, *]) rfl ⟨⟨_, _, _, rfl, hds, by rw [ByteArray.size_extract]; omega, by rw [ByteArray.size_extract]; omega⟩, HBN.out _⟩
                          · go_wp2_with fail
                            exact bodyPost_ret (v := .tuple #[.string dd, .string (bb.extract 0 m), .string (bb.extract m bb.size)]) (by simp [results, Tryd.results25, go_sem, *]) rfl ⟨⟨_, _, _, rfl, hds, by rw [ByteArray.size_extract]; omega, by rw [ByteArray.size_extract]; omega⟩, HBN.out _⟩
                      · go_wp2_with fail
                        exact bodyPost_ret (v := .tuple #[.string dd, .string bb, .string ⟨#[]⟩]) (by simp [results, Tryd.results25, go_sem, *]) rfl ⟨⟨_, _, _, rfl, hds, hbs, Nat.zero_le _⟩, HBN.out _⟩
          · have HT := Lib.hid hT
            clear hT
            have f_x_47 : ((x.toNat : Int) == 47) = false := beq_eq_false_iff_ne.2 (by omega)
            have f_x_92 : ((x.toNat : Int) == 92) = false := beq_eq_false_iff_ne.2 (by omega)
            have f_y_58 : ((y.toNat : Int) == 58) = false := beq_eq_false_iff_ne.2 (by omega)
            clear e1 e2
            go_enter Tryd.func25, Tryd.ntmps25
            go_wp2_with fail
            go_loopw [0, 2, 3, 7] (fun v0 v2 v3 _ wr => PRel s.size w v0 v2 v3 wr) (fun v0 _ _ _ _ => strLen v0)
            case atStart => exact ⟨s, rfl, Nat.le_refl _, rfl, rfl, Below.refl _ _⟩
            case round =>
              obtain ⟨p, rfl, hp, rfl, rfl, hb⟩ := hrel
              have HA : Calls Tryd.prog 27 #[.string p, .string ⟨#[47, 92]⟩] wr (LAP p wr) := lastIndexAny p wr (by omega) (tabsBelow HT.out hb)
              go_wp2_with fail
              go_at_call 27
              refine HA.mono ?_
              rintro e V ⟨⟨k, rfl, k0, k1⟩, hV⟩
              have HBV := Lib.hid (hb.trans (hV.mono hb.size))
              clear hb hV HA
              by_cases hk : k < 0
              · go_wp2_with fail
                obtain ⟨bb, hbb⟩ : ∃ bb : ByteArray, bb = p := ⟨_, rfl⟩
                have hbs : bb.size ≤ s.size := by rw [hbb]; exact hp
                obtain ⟨dd, hdd⟩ : ∃ dd : ByteArray, dd = ⟨#[]⟩ := ⟨_, rfl⟩
                have hds : dd.size ≤ s.size := by rw [hdd]; exact Nat.zero_le _
                rw [← hbb]
                clear hbb
                subst hdd
                obtain ⟨i, i0, i1, HI⟩ := lib28 bb 46 (by omega)
                go_at_call 28
                refine (HI _).mono ?_
                rintro e W ⟨rfl, rfl⟩
                clear HI
                by_cases hi : 0 ≤ i
                · obtain ⟨m, rfl⟩ : ∃ m : Nat, i = m := ⟨i.toNat, by omega⟩
                  obtain ⟨j, j0, j1, HJ⟩ := lib28 (bb.extract 0 m) 46 (by rw [ByteArray.size_extract]; omega)
                  rw [ByteArray.size_extract] at j1
                  obtain ⟨c, hc⟩ : ∃ c, ((bb.extract m bb.size).toList == [46, 99, 115, 115]) = c := ⟨_, rfl⟩
                  cases c
                  · go_wp2_with fail
                    exact bodyPost_ret (v := .tuple #[.string ⟨#[]⟩, .string (bb.extract 0 m), .string (bb.extract m bb.size)]) (by simp [results, Tryd.results25, go_sem, *]) rfl ⟨⟨_, _, _, rfl, hds, by rw [ByteArray.size_extract]; omega, by rw [ByteArray.size_extract]; omega⟩, HBV.out⟩
                  · go_wp2_with fail
                    go_at_call 28
                    refine (HJ _).mono ?_
                    rintro e W ⟨rfl, rfl⟩
                    clear HJ
                    by_cases hj : 0 ≤ j
                    · obtain ⟨l, rfl⟩ : ∃ l : Nat, j = l := ⟨j.toNat, by omega⟩
                      obtain ⟨c2, hc2⟩ : ∃ c2, ((bb.extract l bb.size).toList == [46, 109, 111, 100, 117, 108, 101, 46, 99, 115, 115]) = c2 := ⟨_, rfl⟩
                      cases c2
                      · go_wp2_with fail
                        exact bodyPost_ret (v := .tuple #[.string ⟨#[]⟩, .string (bb.extract 0 m), .string (bb.extract m bb.size)]) (by simp [results, Tryd.results25, go_sem, *]) rfl ⟨⟨_, _, _, rfl, hds, by rw [ByteArray.size_extract]; omega, by rw [ByteArray.size_extract]; omega⟩, HBV.out⟩
                      · go_wp2_with fail
                        exact bodyPost_ret (v := .tuple #[.string ⟨#[]⟩, .string (bb.extract 0 l), .string (bb.extract l bb.size)]) (by simp [results, Tryd.results25, go_sem, *]) rfl ⟨⟨_, _, _, rfl, hds, by rw [ByteArray.size_extract]; omega, by rw [ByteArray.size_extract]; omega⟩, HBV.out⟩
                    · go_wp2_with fail
                      exact bodyPost_ret (v := .tuple #[.string ⟨#[]⟩, .string (bb.extract 0 m), .string (bb.extract m bb.size)]) (by simp [results, Tryd.results25, go_sem, *]) rfl ⟨⟨_, _, _, rfl, hds, by rw [ByteArray.size_extract]; omega, by rw [ByteArray.size_extract]; omega⟩, HBV.out⟩
                · go_wp2_with fail
                  exact bodyPost_ret (v := .tuple #[.string ⟨#[]⟩, .string bb, .string ⟨#[]⟩]) (by simp [results, Tryd.results25, go_sem, *]) rfl ⟨⟨_, _, _, rfl, hds, hbs, Nat.zero_le _⟩, HBV.out⟩
              · obtain ⟨q, rfl⟩ : ∃ q : Nat, k = q := ⟨k.toNat, by omega⟩
                have HBN := Lib.hid (fun n => below_drewN HBV.out n)
                have g1 : ((q : Int) == -1) = false := beq_eq_false_iff_ne.2 (by omega)
                by_cases hql : q + 1 = p.size
                · have g2 : ((q : Int) + 1 != (p.size : Int)) = false := by simp; omega
                  go_wp2_with fail
                  go_roundw
                  case rel => exact ⟨p.extract 0 q, rfl, by rw [ByteArray.size_extract]; omega, rfl, rfl, HBV.out⟩
                  case measure => simp only [strLen]; rw [ByteArray.size_extract]; omega
                · have g2 : ((q : Int) + 1 != (p.size : Int)) = true := by simp; omega
                  go_wp2_with fail
                  go_quiet (fail)
                  go_wp2_with fail
                  obtain ⟨bb, hbb⟩ : ∃ bb : ByteArray, bb = (p.extract (q + 1) p.size) := ⟨_, rfl⟩
                  have hbs : bb.size ≤ s.size := by rw [hbb]; exact by rw [ByteArray.size_extract]; omega
                  obtain ⟨dd, hdd⟩ : ∃ dd : ByteArray, dd = (p.extract 0 q) := ⟨_, rfl⟩
                  have hds : dd.size ≤ s.size := by rw [hdd]; exact by rw [ByteArray.size_extract]; omega
                  rw [← hbb, ← hdd]
                  clear hbb hdd
                  obtain ⟨i, i0, i1, HI⟩ := lib28 bb 46 (by omega)
                  go_at_call 28
                  refine (HI _).mono ?_
                  rintro e W ⟨rfl, rfl⟩
                  clear HI
                  by_cases hi : 0 ≤ i
                  · obtain ⟨m, rfl⟩ : ∃ m : Nat, i = m := ⟨i.toNat, by omega⟩
                    obtain ⟨j, j0, j1, HJ⟩ := lib28 (bb.extract 0 m) 46 (by rw [ByteArray.size_extract]; omega)
                    rw [ByteArray.size_extract] at j1
                    obtain ⟨c, hc⟩ : ∃ c, ((bb.extract m bb.size).toList == [46, 99, 115, 115]) = c := ⟨_, rfl⟩
                    cases c
                    · go_wp2_with fail
                      exact bodyPost_ret (v := .tuple #[.string dd, .string (bb.extract 0 m), .string (bb.extract m bb.size)]) (by simp [results, Tryd.results25, go_sem, *]) rfl ⟨⟨_, _, _, rfl, hds, by rw [ByteArray.size_extract]; omega, by rw [ByteArray.size_extract]; omega⟩, HBN.out _⟩
                    · go_wp2_with fail
                      go_at_call 28
                      refine (HJ _).mono ?_
                      rintro e W ⟨rfl, rfl⟩
                      clear HJ
                      by_cases hj : 0 ≤ j
                      · obtain ⟨l, rfl⟩ : ∃ l : Nat, j = l := ⟨j.toNat, by omega⟩
                        obtain ⟨c2, hc2⟩ : ∃ c2, ((bb.extract l bb.size).toList == [46, 109, 111, 100, 117, 108, 101, 46, 99, 115, 115]) = c2 := ⟨_, rfl⟩
                        cases c2
                        · go_wp2_with fail
                          exact bodyPost_ret (v := .tuple #[.string dd, .string (bb.extract 0 m), .string (bb.extract m bb.size)]) (by simp [results, Tryd.results25, go_sem, *]) rfl ⟨⟨_, _, _, rfl, hds, by rw [ByteArray.size_extract]; omega, by rw [ByteArray.size_extract]; omega⟩, HBN.out _⟩
                        · go_wp2_with fail
                          exact bodyPost_ret (v := .tuple #[.string dd, .string (bb.extract 0 l), .string (bb.extract l bb.size)]) (by simp [results, Tryd.results25, go_sem, *]) rfl ⟨⟨_, _, _, rfl, hds, by rw [ByteArray.size_extract]; omega, by rw [ByteArray.size_extract]; omega⟩, HBN.out _⟩
                      · go_wp2_with fail
                        exact bodyPost_ret (v := .tuple #[.string dd, .string (bb.extract 0 m), .string (bb.extract m bb.size)]) (by simp [results, Tryd.results25, go_sem, *]) rfl ⟨⟨_, _, _, rfl, hds, by rw [ByteArray.size_extract]; omega, by rw [ByteArray.size_extract]; omega⟩, HBN.out _⟩
                  · go_wp2_with fail
                    exact bodyPost_ret (v := .tuple #[.string dd, .string bb, .string ⟨#[]⟩]) (by simp [results, Tryd.results25, go_sem, *]) rfl ⟨⟨_, _, _, rfl, hds, hbs, Nat.zero_le _⟩, HBN.out _⟩
        · have HT := Lib.hid hT
          clear hT
          have f_x_47 : ((x.toNat : Int) == 47) = false := beq_eq_false_iff_ne.2 (by omega)
          have f_x_92 : ((x.toNat : Int) == 92) = false := beq_eq_false_iff_ne.2 (by omega)
          clear e1 e2
          have h2' : decide ((2 : Int) < (s.size : Int)) = false := decide_eq_false (by omega)
          go_enter Tryd.func25, Tryd.ntmps25
          go_wp2_with fail
          go_loopw [0, 2, 3, 7] (fun v0 v2 v3 _ wr => PRel s.size w v0 v2 v3 wr) (fun v0 _ _ _ _ => strLen v0)
          case atStart => exact ⟨s, rfl, Nat.le_refl _, rfl, rfl, Below.refl _ _⟩
          case round =>
            obtain ⟨p, rfl, hp, rfl, rfl, hb⟩ := hrel
            have HA : Calls Tryd.prog 27 #[.string p, .string ⟨#[47, 92]⟩] wr (LAP p wr) := lastIndexAny p wr (by omega) (tabsBelow HT.out hb)
            go_wp2_with fail
            go_at_call 27
            refine HA.mono ?_
            rintro e V ⟨⟨k, rfl, k0, k1⟩, hV⟩
            have HBV := Lib.hid (hb.trans (hV.mono hb.size))
            clear hb hV HA
            by_cases hk : k < 0
            · go_wp2_with fail
              obtain ⟨bb, hbb⟩ : ∃ bb : ByteArray, bb = p := ⟨_, rfl⟩
              have hbs : bb.size ≤ s.size := by rw [hbb]; exact hp
              obtain ⟨dd, hdd⟩ : ∃ dd : ByteArray, dd = ⟨#[]⟩ := ⟨_, rfl⟩
              have hds : dd.size ≤ s.size := by rw [hdd]; exact Nat.zero_le _
              rw [← hbb]
              clear hbb
              subst hdd
              obtain ⟨i, i0, i1, HI⟩ := lib28 bb 46 (by omega)
              go_at_call 28
              refine (HI _).mono ?_
              rintro e W ⟨rfl, rfl⟩
              clear HI
              by_cases hi : 0 ≤ i
              · obtain ⟨m, rfl⟩ : ∃ m : Nat, i = m := ⟨i.toNat, by omega⟩
                obtain ⟨j, j0, j1, HJ⟩ := lib28 (bb.extract 0 m) 46 (by rw [ByteArray.size_extract]; omega)
                rw [ByteArray.size_extract] at j1
                obtain ⟨c, hc⟩ : ∃ c, ((bb.extract m bb.size).toList == [46, 99, 115, 115]) = c := ⟨_, rfl⟩
                cases c
                · go_wp2_with fail
                  exact bodyPost_ret (v := .tuple #[.string ⟨#[]⟩, .string (bb.extract 0 m), .string (bb.extract m bb.size)]) (by simp [results, Tryd.results25, go_sem, *]) rfl ⟨⟨_, _, _, rfl, hds, by rw [ByteArray.size_extract]; omega, by rw [ByteArray.size_extract]; omega⟩, HBV.out⟩
                · go_wp2_with fail
                  go_at_call 28
                  refine (HJ _).mono ?_
                  rintro e W ⟨rfl, rfl⟩
                  clear HJ
                  by_cases hj : 0 ≤ j
                  · obtain ⟨l, rfl⟩ : ∃ l : Nat, j = l := ⟨j.toNat, by omega⟩
                    obtain ⟨c2, hc2⟩ : ∃ c2, ((bb.extract l bb.size).toList == [46, 109, 111, 100, 117, 108, 101, 46, 99, 115, 115]) = c2 := ⟨_, rfl⟩
                    cases c2
                    · go_wp2_with fail
                      exact bodyPost_ret (v := .tuple #[.string ⟨#[]⟩, .string (bb.extract 0 m), .string (bb.extract m bb.size)]) (by simp [results, Tryd.results25, go_sem, *]) rfl ⟨⟨_, _, _, rfl, hds, by rw [ByteArray.size_extract]; omega, by rw [ByteArray.size_extract]; omega⟩, HBV.out⟩
                    · go_wp2_with fail
                      exact bodyPost_ret (v := .tuple #[.string ⟨#[]⟩, .string (bb.extract 0 l), .string (bb.extract l bb.size)]) (by simp [results, Tryd.results25, go_sem, *]) rfl ⟨⟨_, _, _, rfl, hds, by rw [ByteArray.size_extract]; omega, by rw [ByteArray.size_extract]; omega⟩, HBV.out⟩
                  · go_wp2_with fail
                    exact bodyPost_ret (v := .tuple #[.string ⟨#[]⟩, .string (bb.extract 0 m), .string (bb.extract m bb.size)]) (by simp [results, Tryd.results25, go_sem, *]) rfl ⟨⟨_, _, _, rfl, hds, by rw [ByteArray.size_extract]; omega, by rw [ByteArray.size_extract]; omega⟩, HBV.out⟩
              · go_wp2_with fail
                exact bodyPost_ret (v := .tuple #[.string ⟨#[]⟩, .string bb, .string ⟨#[]⟩]) (by simp [results, Tryd.results25, go_sem, *]) rfl ⟨⟨_, _, _, rfl, hds, hbs, Nat.zero_le _⟩, HBV.out⟩
            · obtain ⟨q, rfl⟩ : ∃ q : Nat, k = q := ⟨k.toNat, by omega⟩
              have HBN := Lib.hid (fun n => below_drewN HBV.out n)
              have g1 : ((q : Int) == -1) = false := beq_eq_false_iff_ne.2 (by omega)
              by_cases hql : q + 1 = p.size
              · have g2 : ((q : Int) + 1 != (p.size : Int)) = false := by simp; omega
                go_wp2_with fail
                go_roundw
                case rel => exact ⟨p.extract 0 q, rfl, by rw [ByteArray.size_extract]; omega, rfl, rfl, HBV.out⟩
                case measure => simp only [strLen]; rw [ByteArray.size_extract]; omega
              · have g2 : ((q : Int) + 1 != (p.size : Int)) = true := by simp; omega
                go_wp2_with fail
                go_quiet (fail)
                go_wp2_with fail
                obtain ⟨bb, hbb⟩ : ∃ bb : ByteArray, bb = (p.extract (q + 1) p.size) := ⟨_, rfl⟩
                have hbs : bb.size ≤ s.size := by rw [hbb]; exact by rw [ByteArray.size_extract]; omega
                obtain ⟨dd, hdd⟩ : ∃ dd : ByteArray, dd = (p.extract 0 q) := ⟨_, rfl⟩
                have hds : dd.size ≤ s.size := by rw [hdd]; exact by rw [ByteArray.size_extract]; omega
                rw [← hbb, ← hdd]
                clear hbb hdd
                obtain ⟨i, i0, i1, HI⟩ := lib28 bb 46 (by omega)
                go_at_call 28
                refine (HI _).mono ?_
                rintro e W ⟨rfl, rfl⟩
                clear HI
                by_cases hi : 0 ≤ i
                · obtain ⟨m, rfl⟩ : ∃ m : Nat, i = m := ⟨i.toNat, by omega⟩
                  obtain ⟨j, j0, j1, HJ⟩ := lib28 (bb.extract 0 m) 46 (by rw [ByteArray.size_extract]; omega)
                  rw [ByteArray.size_extract] at j1
                  obtain ⟨c, hc⟩ : ∃ c, ((bb.extract m bb.size).toList == [46, 99, 115, 115]) = c := ⟨_, rfl⟩
                  cases c
                  · go_wp2_with fail
                    exact bodyPost_ret (v := .tuple #[.string dd, .string (bb.extract 0 m), .string (bb.extract m bb.size)]) (by simp [results, Tryd.results25, go_sem, *]) rfl ⟨⟨_, _, _, rfl, hds, by rw [ByteArray.size_extract]; omega, by rw [ByteArray.size_extract]; omega⟩, HBN.out _⟩
                  · go_wp2_with fail
                    go_at_call 28
                    refine (HJ _).mono ?_
                    rintro e W ⟨rfl, rfl⟩
                    clear HJ
                    by_cases hj : 0 ≤ j
                    · obtain ⟨l, rfl⟩ : ∃ l : Nat, j = l := ⟨j.toNat, by omega⟩
                      obtain ⟨c2, hc2⟩ : ∃ c2, ((bb.extract l bb.size).toList == [46, 109, 111, 100, 117, 108, 101, 46, 99, 115, 115]) = c2 := ⟨_, rfl⟩
                      cases c2
                      · go_wp2_with fail
                        exact bodyPost_ret (v := .tuple #[.string dd, .string (bb.extract 0 m), .string (bb.extract m bb.size)]) (by simp [results, Tryd.results25, go_sem, *]) rfl ⟨⟨_, _, _, rfl, hds, by rw [ByteArray.size_extract]; omega, by rw [ByteArray.size_extract]; omega⟩, HBN.out _⟩
                      · go_wp2_with fail
                        exact bodyPost_ret (v := .tuple #[.string dd, .string (bb.extract 0 l), .string (bb.extract l bb.size)]) (by simp [results, Tryd.results25, go_sem, *]) rfl ⟨⟨_, _, _, rfl, hds, by rw [ByteArray.size_extract]; omega, by rw [ByteArray.size_extract]; omega⟩, HBN.out _⟩
                    · go_wp2_with fail
                      exact bodyPost_ret (v := .tuple #[.string dd, .string (bb.extract 0 m), .string (bb.extract m bb.size)]) (by simp [results, Tryd.results25, go_sem, *]) rfl ⟨⟨_, _, _, rfl, hds, by rw [ByteArray.size_extract]; omega, by rw [ByteArray.size_extract]; omega⟩, HBN.out _⟩
                · go_wp2_with fail
                  exact bodyPost_ret (v := .tuple #[.string dd, .string bb, .string ⟨#[]⟩]) (by simp [results, Tryd.results25, go_sem, *]) rfl ⟨⟨_, _, _, rfl, hds, hbs, Nat.zero_le _⟩, HBN.out _⟩
end IB
end Go.Proofs.YtoblkmnhoiodcaaDoor
