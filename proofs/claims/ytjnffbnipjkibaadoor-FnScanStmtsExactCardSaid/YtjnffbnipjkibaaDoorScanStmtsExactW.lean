/- Proved here: the walk of FnScanStmtsExact: it returns true. Conditions: the arguments lie as stated. -/
import Derived.Test.YtjnffbnipjkibaaDoorSCE
import Derived.WalkKit
import Derived.WalkSpells
import Derived.WalkLawsBesides
import Derived.Lib.Hide
import Derived.Lib.SliceRun
import Derived.Deep.RegionWith
import Derived.OwnWalk
import Derived.Laws.OwnMore
import Derived.BigQuiet
import Derived.Deep.QuietTactic
namespace Go.Proofs.YtjnffbnipjkibaaDoor.fnScanStmtsExact
open Go.RowKit
set_option linter.unusedSimpArgs false
set_option linter.unusedVariables false

theorem IsRow.below {k : IntKind} {w w1 : World} {a : Option Addr} {len cap : Nat} {zs : List Int} (h : IsRow k w a len cap zs) (hb : Below w.heap.size w w1) : IsRow k w1 a len cap zs := by
  rcases h with h | ⟨x, e1, e2, e3, e4, hc, hw⟩
  · exact .inl h
  · refine .inr ⟨x, e1, e2, e3, e4, fun i hi => ?_, hw⟩
    have := hc i hi
    obtain ⟨b, off, rfl⟩ := spot_none (hc 0 (by omega))
    rw [add_none] at this ⊢
    exact kept hb this
theorem row255 {w : World} {a : Option Addr} {n c : Nat} {zs : List Int} (h : IsRow .u8 w a n c zs) : ∀ i, 0 ≤ zs.getD i 0 ∧ zs.getD i 0 ≤ 255 := fun i => by
  rcases (len_ints h).2.2 i with h | h
  · exact wf_u8 h
  · simp [List.getD, List.getElem?_eq_none h]
theorem bytes_yes (a0 a1 : Option Addr) (n0 n1 c0 c1 : Nat) (b2 b3 b4 b5 b6 : Bool) (w : World) (h : n0 + n1 ≤ 1048576) :
    Calls Tryd.prog 12 #[.slice a0 n0 c0, .slice a1 n1 c1, .bool b2, .bool b3, .bool b4, .bool b5, .bool b6] w fun e w' => e = .returned (.bool true) ∧ w = w' := by
  have h0 : n0 ≤ 1048576 := by omega
  have h1 : n1 ≤ 1048576 := by omega
  go_enter Tryd.func12, Tryd.ntmps12
  go_wp2_with fail
  go_ret
  exact ⟨rfl, rfl⟩
theorem bytes_any (a0 a1 : Option Addr) (n0 n1 c0 c1 : Nat) (b2 b3 b4 b5 b6 : Bool) (w : World) (m0 : n0 ≤ maxLen) (m1 : n1 ≤ maxLen) :
    ∃ b : Bool, Calls Tryd.prog 12 #[.slice a0 n0 c0, .slice a1 n1 c1, .bool b2, .bool b3, .bool b4, .bool b5, .bool b6] w fun e w' => e = .returned (.bool b) ∧ w = w' := by
  unfold maxLen at m0 m1
  by_cases h : n0 + n1 ≤ 1048576
  · exact ⟨true, bytes_yes a0 a1 n0 n1 c0 c1 b2 b3 b4 b5 b6 w h⟩
  · refine ⟨false, ?_⟩
    by_cases h0 : n0 ≤ 1048576
    · by_cases h1 : n1 ≤ 1048576
      · have h2 : decide ((1048576 : Int) < (n0 : Int) + (n1 : Int)) = true := by simp; omega
        go_enter Tryd.func12, Tryd.ntmps12
        go_wp2_with fail
        go_ret
        exact ⟨rfl, rfl⟩
      · have h2 : 1048576 < n1 := by omega
        go_enter Tryd.func12, Tryd.ntmps12
        go_wp2_with fail
        go_ret
        exact ⟨rfl, rfl⟩
    · have h2 : 1048576 < n0 := by omega
      go_enter Tryd.func12, Tryd.ntmps12
      go_wp2_with fail
      go_ret
      exact ⟨rfl, rfl⟩
theorem zscan {a0 a1 a2 : Value} {w : World} {R : World → Prop} (h : Calls Tryd.prog 31 #[a0, a1, a2] w fun e w' => e = .returned (.tuple #[]) ∧ R w') : Calls Tryd.prog 19 #[a0, a1, a2] w fun e w' => e = .returned (.tuple #[]) ∧ R w' := by
  have HH := Lib.hid h
  clear h
  go_enter Tryd.func19, Tryd.ntmps19
  go_wp2_with fail
  refine HH.out.mono ?_
  rintro e w' ⟨rfl, hr⟩
  have HR := Lib.hid hr
  clear hr
  go_wp2_with fail
  go_end0
  exact ⟨rfl, HR.out⟩
theorem PS.scanned {W w7 : World} {B B2 b x m : Nat} {src : Int} {ts : Bool} {n : Nat} {xs : List Value} {cs : Array Value} {zs : List Int} {lo : Nat → Nat} {kd : Nat → Int} (h : PS W B b src ts n xs) (hx : At W x 53 cs) (hLV : LV m zs lo kd W) (hb : b < B2) (hbw : Below B2 W w7) (hfr : FrS m x zs lo W w7) : PS w7 B b src ts n xs :=
  PS.of_blocks h (hbw.block b hb) (fun k c hk => (hfr k (Array.getElem?_eq_some_iff.1 hk).1 (atNeAt (show At W k 212 c from hk) hx (by decide)) (fun i hi h5 => atNeAt (show At W k 212 c from hk) (hLV i hi h5).1 (by decide))).trans hk)
def FS (zs ts : List Int) (k : Nat) (f0 : Int) (fb a0 : Bool) : Prop := f0 = fu zs ts k ∧ fb = decide (f0 ≠ 0) ∧ a0 = aw zs k
theorem FS.skip {zs ts : List Int} {k : Nat} {f0 : Int} {fb a0 : Bool} (h : FS zs ts k f0 fb a0) (hs : kz zs k = 5 ∨ isU (kOf (kz zs k)) = false) : FS zs ts (k + 1) f0 fb a0 := by
  obtain ⟨h1, h2, h3⟩ := h
  refine ⟨?_, h2, ?_⟩
  · rcases hs with hs | hs <;> simp [fu, hs, h1]
  · rcases hs with hs | hs
    · simp [aw, hs, h3]
    · have : ¬ (kOf (kz zs k) = 4) := fun e => by rw [e] at hs; simp [isU] at hs
      simp [aw, this, h3]
theorem aw_step {zs : List Int} {k : Nat} {a0 : Bool} (h : a0 = aw zs k) (h5 : kz zs k ≠ 5) : (a0 || kOf (kz zs k) == 4) = aw zs (k + 1) := by simp [aw, h5, h]
theorem FS.keep {zs ts : List Int} {k : Nat} {f0 : Int} {a0 na : Bool} (h : FS zs ts k f0 true a0) (h5 : kz zs k ≠ 5) (hna : na = (a0 || kOf (kz zs k) == 4)) : FS zs ts (k + 1) f0 true na := by
  obtain ⟨h1, h2, h3⟩ := h
  have h0 : f0 ≠ 0 := of_decide_eq_true h2.symm
  refine ⟨?_, h2, hna.trans (aw_step h3 h5)⟩
  rw [h1] at h0
  simp only [fu]
  rw [if_neg (fun h => h0 h.2.2), h1]
theorem FS.take {zs ts : List Int} {k : Nat} {f0 t : Int} {fb a0 na : Bool} (h : FS zs ts k f0 false a0) (h5 : kz zs k ≠ 5) (hU : isU (kOf (kz zs k)) = true) (ht : t = ts.getD k 0) (hfb : fb = decide (t ≠ 0)) (hna : na = (a0 || kOf (kz zs k) == 4)) : FS zs ts (k + 1) t fb na := by
  obtain ⟨h1, h2, h3⟩ := h
  have h0 : f0 = 0 := by
    have := of_decide_eq_false h2.symm
    exact Decidable.not_not.1 this
  refine ⟨?_, hfb, hna.trans (aw_step h3 h5)⟩
  rw [h1] at h0
  simp only [fu]
  rw [if_pos ⟨h5, hU, h0⟩, ht]
theorem FS.zero {zs ts : List Int} {k : Nat} {f0 : Int} {a0 na : Bool} (h : FS zs ts k f0 false a0) (h5 : kz zs k ≠ 5) (hU : isU (kOf (kz zs k)) = true) (ht : 0 = ts.getD k 0) (hna : na = (a0 || kOf (kz zs k) == 4)) : FS zs ts (k + 1) f0 false na := by
  have h0 : f0 = 0 := by
    have := of_decide_eq_false h.2.1.symm
    exact Decidable.not_not.1 this
  rw [h0]
  exact FS.take h h5 hU ht rfl hna
def LX (n : Nat) (zs ts : List Int) (Wz : World) (a b c i : Value) (wr : World) : Prop :=
  ∃ (k : Nat) (f0 : Int) (fb a0 : Bool), k ≤ n ∧ i = .int .i64 k ∧ a = .int .i32 f0 ∧ b = .bool fb ∧ c = .bool a0 ∧ Hid (FS zs ts k f0 fb a0) ∧ Hid (Below Wz.heap.size Wz wr)
set_option maxRecDepth 100000 in
set_option maxHeartbeats 32000000 in
theorem walk (a0 : Option Addr) (len0 cap0 : Nat) (z0 : List Int) (a1 : Option Addr) (len1 cap1 : Nat) (z1 : List Int) (a2 a3 a4 a5 a6 : Bool) (w : World) (w0 : IsRow .u8 w a0 len0 cap0 z0) (w1 : IsRow .i32 w a1 len1 cap1 z1)
    (hg0 : w.cell? ⟨0, 0, none⟩ = some (.int .u32 4294967295)) (hg1 : w.cell? ⟨0, 1, none⟩ = some (.int .u32 4294967295)) :
    Calls Tryd.prog 4 #[.slice a0 len0 cap0, .slice a1 len1 cap1, .bool a2, .bool a3, .bool a4, .bool a5, .bool a6] w fun e w' => e = .returned (.bool true) ∧ Below w.heap.size w w' := by
  by_cases hs : len0 ≤ 4096 ∧ len1 ≤ 4096
  · obtain ⟨s0, s1⟩ := hs
    have HW0 := Lib.hid w0
    have HW1 := Lib.hid w1
    have HZ := Lib.hid (row255 w0)
    have lw0 := World.block_lt_of_cell? _ _ hg0
    obtain ⟨zs, hzs⟩ : ∃ z, z = z0 := ⟨_, rfl⟩
    obtain ⟨ts, hts⟩ : ∃ z, z = z1 := ⟨_, rfl⟩
    rw [← hzs] at HZ HW0
    rw [← hts] at HW1
    clear w0 w1 hzs hts z0 z1
    go_enter Tryd.func4, Tryd.ntmps4
    go_wp2_with fail
    refine (bytes_yes _ _ _ _ _ _ _ _ _ _ _ _ (by omega)).mono ?_
    rintro e w' ⟨rfl, rfl⟩
    go_wp2_with fail
    refine (cpU8_any a0 len0 cap0 zs w HW0.out (by omega)).mono ?_
    rintro e w1 ⟨b0, c0, rfl, hr0, hb1⟩
    have HR0' := Lib.hid hr0
    have HB1 := Lib.hid hb1
    have HW1' := Lib.hid (IsRow.below HW1.out hb1)
    clear hr0 hb1 HW0 HW1
    go_wp2_with fail
    refine (cpI32_any a1 len1 cap1 ts w1 HW1'.out (by omega)).mono ?_
    rintro e w2 ⟨b1, c1, rfl, hr1, hb2⟩
    have HR1 := Lib.hid hr1
    have HR0 := Lib.hid (HR0'.out.below hb2)
    have HB2 := Lib.hid (show Below w.heap.size w w2 from HB1.out.trans (hb2.mono HB1.out.size))
    clear hr1 hb2 HR0' HB1 HW1'
    by_cases hlt : len1 < len0
    · have hl1 : (len1 : Int) < (len0 : Int) := by omega
      go_wp2_with fail
      refine (scanParser a2 a3 a4 a5 a6 w2).mono ?_
      rintro e w3 ⟨b, c, v, xs, B0, rfl, ⟨hB0, hBb, hcB⟩, hps, hpf, hz3, hcc, hvn, hb3⟩
      have HPS := Lib.hid hps
      have HPF := Lib.hid hpf
      have HCC := Lib.hid hcc
      have HVN := Lib.hid hvn
      have R0 := Lib.hid (HR0.out.below hb3)
      have R1 := Lib.hid (HR1.out.below hb3)
      have C3 := Lib.hid hb3
      have lb3 : b < w3.heap.size := by obtain ⟨_, _, h66, _⟩ := hps; exact World.block_lt_of_cell? _ _ h66
      have lc3 : c < w3.heap.size := by omega
      clear hps hpf hcc hvn hb3
      go_wp2_with fail
      refine (build len1 len0 len1 c0 c1 b0 b1 zs ts (by omega) (by omega) (by omega) HZ.out w3 R0.out R1.out).mono ?_
      rintro e w4 ⟨cs, cl, lo, rfl, hA, hL, hCV, hLV, hlo, hmo, hb4⟩
      obtain ⟨Rs, hRs⟩ : ∃ x, x = w3.heap.size := ⟨_, rfl⟩
      obtain ⟨Rl, hRl⟩ : ∃ x, x = Rs + 1 := ⟨_, rfl⟩
      rw [← hRs] at hA hlo hL
      rw [← hRl] at hL
      rw [← hRs, ← hRl]
      have lRs : Rs < w4.heap.size := hA.lt
      have lRl : Rl < w4.heap.size := hL.lt
      have HP4 := Lib.hid (HPS.out.below hb4)
      have HF4 := Lib.hid (HPF.out.below hb4)
      have HC4 := Lib.hid (kept hb4 HCC.out)
      have C4 := Lib.hid (show Below w2.heap.size w2 w4 from C3.out.trans (hb4.mono C3.out.size))
      have g04 := kept (HB2.out.trans (C4.out.mono HB2.out.size)) hg0
      have g14 := kept (HB2.out.trans (C4.out.mono HB2.out.size)) hg1
      have zz : w.heap.size ≤ w2.heap.size ∧ w2.heap.size ≤ B0 ∧ B0 ≤ b ∧ b < Rs ∧ c < Rs ∧ Rs + 1 ≤ Rl ∧ Rl ≤ Rs + 1 ∧ c < B0 ∧ B0 ≤ w4.heap.size ∧ B0 ≤ Rs := by
        have := hb4.size
        have := HB2.out.size
        omega
      have HA := Lib.hid hA
      have HL := Lib.hid hL
      have HV := Lib.hid hCV
      have HLV := Lib.hid hLV
      have HLO := Lib.hid hlo
      have HMO := Lib.hid hmo
      clear hA hL hCV hLV hlo hmo hb4 HPS HPF HCC R0 R1 C3 hRs hRl hB0 hBb hcB hz3 lb3 lc3
      go_wp2_with fail
      refine (znc B0 b 0 0 xs w4 (by omega) (by omega) (by omega) (by omega) g04 g14 HP4.out).mono ?_
      rintro e w5 ⟨rfl, hp5, hk5, hb5, hs5⟩
      have z5 := hb5.size
      have HP5 := Lib.hid hp5
      have HF5 := Lib.hid (HF4.out.sb hs5)
      have HC5 := Lib.hid (show w5.cell? ⟨c, 1, none⟩ = some (.pointer v) from (hb5.cell (p := ⟨c, 1, none⟩) (by simp; omega)).trans HC4.out)
      have HA5 := Lib.hid (show At w5 Rs 248 cs from (hk5.block HA.out (by omega) (by decide)).trans HA.out)
      have HL5 := Lib.hid (show At w5 Rl 60 cl from (hk5.block HL.out (by omega) (by decide)).trans HL.out)
      have HLV5 := Lib.hid (show LV len1 zs lo (fun i => kOf (kz zs i)) w5 from fun i hi h5 => by
        have l := HLO.out i hi
        obtain ⟨h1, h2⟩ := HLV.out i hi h5
        exact ⟨(hk5.block h1 (by omega) (by decide)).trans h1, (hk5.block h2 (by omega) (by decide)).trans h2⟩)
      have C5 := Lib.hid (show Below w2.heap.size w2 w5 from C4.out.trans (hb5.mono (by omega)))
      clear hp5 hk5 hb5 hs5 HP4 HF4 HC4 HA HL HLV C4 g04 g14
      go_wp2_with fail
      obtain ⟨x, hx⟩ : ∃ x, x = w5.heap.size := ⟨_, rfl⟩
      rw [← hx]
      have lx5 : w5.heap.size ≤ x := by omega
      obtain ⟨W6, hW6⟩ : ∃ W, W = w5.alloc (.cells #[.int .i32 0, .int .u32 0, .int .u32 0, .bool false] 53) := ⟨_, rfl⟩
      rw [← hW6]
      have AX6 : At W6 x 53 #[.int .i32 0, .int .u32 0, .int .u32 0, .bool false] := by rw [hW6, hx]; exact At.new _ _ _
      have hb6 : Below w5.heap.size w5 W6 := by rw [hW6]; exact (Below.refl _ _).alloc (Nat.le_refl _) _
      have z6 : w5.heap.size < W6.heap.size := by rw [hW6]; simp
      have HP6 := Lib.hid (HP5.out.below hb6)
      have HF6 := HF5.out.below hb6
      have HC6 := kept hb6 HC5.out
      have HA6 := HA5.out.below hb6 HA5.out.lt
      have HL6 := HL5.out.below hb6 HL5.out.lt
      have HLV6 := Lib.hid (show LV len1 zs lo (fun i => kOf (kz zs i)) W6 from HLV5.out.keep (fun i hi => by
        have l := HLO.out i hi
        exact ⟨hb6.block _ (by omega), hb6.block _ (by omega)⟩))
      have C6 := Lib.hid (show Below w2.heap.size w2 W6 from C5.out.trans (hb6.mono C5.out.size))
      have SCN := Lib.hid (zscan (scan a2 a3 a4 a5 a6 len1 x (Rs + 2) b c Rs v zs ts lo cs cl 0 0 W6 (by omega) HZ.out HF6 HC6 HVN.out HA6 HV.out HLV6.out (fun i hi => by have l := HLO.out i hi; omega) HMO.out AX6 (by omega) (by omega) (by omega) (by omega) (by omega)))
      have HAX6 := Lib.hid AX6
      have HL6' := Lib.hid HL6
      clear hW6 hb6 HF6 HC6 HA6 HL6 AX6 HP5 HF5 HC5 HA5 HL5 HLV5 C5 hx
      refine (scount B0 b 0 false _ _ W6 HP6.out).mono ?_
      rintro e w' ⟨rfl, rfl⟩
      go_wp2_with fail
      refine SCN.out.mono ?_
      rintro e w7 ⟨rfl, hSX⟩
      obtain ⟨K, hK⟩ : ∃ K, K = kX a2 a3 a4 a5 a6 := ⟨_, rfl⟩
      rw [← hK] at hSX
      have HEX := Lib.hid (fun W => expected a2 a3 a4 a5 a6 W)
      rw [← hK] at HEX
      obtain ⟨hlv7, hax7, hfr7, hb7⟩ := hSX
      have z7 := hb7.size
      have HP7 := Lib.hid (PS.scanned HP6.out HAX6.out HLV6.out (by omega) hb7 hfr7)
      have HCL := Lib.hid (show At w7 Rl 60 cl from (hb7.block Rl (by omega)).trans HL6'.out)
      have HLV7 := Lib.hid hlv7
      have HX7 := Lib.hid hax7
      have C7 := Lib.hid (show Below w2.heap.size w2 w7 from C6.out.trans (hb7.mono (by omega)))
      have R0 := Lib.hid (HR0.out.below C7.out)
      have R1 := Lib.hid (HR1.out.below C7.out)
      have BW := Lib.hid (show Below w.heap.size w w7 from HB2.out.trans (C7.out.mono HB2.out.size))
      clear hlv7 hax7 hfr7 hb7 hK HP6 HAX6 HLV6 HL6' SCN C6 C7 HR0 HR1 HB2
      go_wp2_with fail
      refine (HEX.out _).mono ?_
      rintro e w' ⟨rfl, rfl⟩
      clear HEX
      go_wp2_with fail
      obtain ⟨Wz, hWz⟩ : ∃ W, W = w7 := ⟨_, rfl⟩
      rw [← hWz] at HP7 HCL HLV7 HX7 R0 R1 BW ⊢
      clear hWz
      go_loopw [22, 23, 24, 25] (fun a b c i wr => LX len1 zs ts Wz a b c i wr) (fun _ _ _ i _ => len1 - (intOf i).toNat)
      case atStart => exact ⟨0, 0, false, false, Nat.zero_le _, rfl, rfl, rfl, rfl, Lib.hid ⟨rfl, rfl, rfl⟩, Lib.hid (Below.refl _ _)⟩
      case round =>
        obtain ⟨k, f0, fb, a0', hk, rfl, rfl, rfl, rfl, HFS0, HB⟩ := hrel
        by_cases hkn : k < len1
        · have HCLr := Lib.hid (HCL.out.below HB.out HCL.out.lt)
          obtain ⟨_, q2, q3⟩ := HV.out k hkn
          have k0 : (0 : Int) ≤ (k : Int) := Int.natCast_nonneg _
          have k1 : (k : Int) < (len1 : Int) := by omega
          have k2 : (k : Int) < (len0 : Int) := by omega
          have k3 : (k : Int) < (len1 : Int) := by omega
          have clt := HCLr.out.lt
          by_cases h5 : kz zs k = 5
          · have c0' : wr.cell? ⟨Rl, k, none⟩ = some (.pointer none) := by rw [HCLr.out.cell]; exact (q2 h5).2
            have HFS := Lib.hid (FS.skip HFS0.out (.inl h5))
            clear h5 q2 q3 HCLr HFS0
            go_wp2_with fail
            go_roundw
            case rel => exact ⟨k + 1, _, _, _, by omega, by go_num, rfl, rfl, rfl, HFS, HB⟩
            case measure => simp [intOf]; omega
          · have HC0 := Lib.hid ((q3 h5).2)
            have c0' : wr.cell? ⟨Rl, k, none⟩ = some (.pointer (some ⟨lo k, 0, none⟩)) := by rw [HCLr.out.cell]; exact HC0.out
            obtain ⟨al, ad⟩ := HLV7.out k hkn h5
            have HK5 := Lib.hid h5
            have HKD0 := Lib.hid (show isU (kOf (kz zs k)) = false → kdAt K zs len1 k = kOf (kz zs k) from fun h => by simp [kdAt, h])
            have HKD1 := Lib.hid (show isU (kOf (kz zs k)) = true → kdAt K zs len1 k = K from fun h => by simp [kdAt, h, hkn])
            obtain ⟨kd, hkd⟩ : ∃ x, x = kdAt K zs len1 k := ⟨_, rfl⟩
            rw [← hkd] at al HKD0 HKD1
            obtain ⟨kk, hkk⟩ : ∃ x, x = kOf (kz zs k) := ⟨_, rfl⟩
            have kr := kz_range HZ.out k
            have kk4 : 0 ≤ kk ∧ kk ≤ 4 := by rw [hkk]; unfold kOf; repeat' split
                                             all_goals omega
            obtain ⟨B1, o1, rfl, hc1⟩ := R0.out (by omega)
            obtain ⟨B2, o2, rfl, hc2⟩ := R1.out (by omega)
            have cz := kept HB.out (hc1 k (by omega))
            have ct := kept HB.out (hc2 k (by omega))
            obtain ⟨z, hzz⟩ : ∃ z, z = zs.getD k 0 := ⟨_, rfl⟩
            obtain ⟨t, htt⟩ : ∃ t, t = ts.getD k 0 := ⟨_, rfl⟩
            obtain ⟨zz0, zz1⟩ := HZ.out k
            simp only [← hzz] at cz zz0 zz1
            simp only [← htt] at ct
            have hkz : kz zs k = z % 6 := by unfold kz; rw [hzz]
            have hdz : dz zs k = (z / 6 % 3).toNat := by unfold dz; rw [hzz]
            have HKO := Lib.hid (fun W => kindOf (z % 6) W (by omega) (by omega))
            rw [← hkz, ← hkk] at HKO
            rw [hkz] at HKO
            have HU := Lib.hid (fun W => isUsingK kk W kk4.1 kk4.2)
            obtain ⟨D, hD⟩ : ∃ D, D = dz zs k := ⟨_, rfl⟩
            rw [← hD] at al ad hdz
            have hwd' : (IntKind.i64.wrap (IntKind.u8.wrap (z.tdiv 6))).tmod 3 = (D : Int) := by rw [hwd z zz0 zz1, hdz]; omega
            have hD2 : D ≤ 2 := by rw [hdz]; omega
            have hwd2 : ((D : Int) != z / 6 % 3) = false := by rw [hdz]; simp; omega
            obtain ⟨L, hL⟩ : ∃ L, L = lo k := ⟨_, rfl⟩
            rw [← hL] at HC0 c0' al ad
            obtain ⟨L1, hL1⟩ : ∃ L1, L1 = L - 1 := ⟨_, rfl⟩
            rw [← hL1] at al ad
            have HALz := Lib.hid al
            have HADz := Lib.hid ad
            have HAL := Lib.hid (al.below HB.out al.lt)
            have HADr := Lib.hid (ad.below HB.out ad.lt)
            have lL := HAL.out.lt
            have lB1 := World.block_lt_of_cell? _ _ cz
            have lB2 := World.block_lt_of_cell? _ _ ct
            have HTT := Lib.hid htt
            have HKK := Lib.hid hkk
            obtain ⟨u, hu⟩ : ∃ u, u = isU kk := ⟨_, rfl⟩
            rw [← hu] at HU
            clear h5 q2 q3 al ad hc1 hc2 hzz htt hkk hkd hL hL1 hkz hdz hD
            cases u with
            | false =>
              have HU1 := Lib.hid (show isU (kOf (kz zs k)) = false from by rw [← HKK.out]; exact hu.symm)
              have m1 : wr.cell? ⟨L, 1, none⟩ = some (.int .u8 kk) := by rw [HAL.out.cell, HKK.out, ← HKD0.out HU1.out]; rfl
              clear hu HKD1 HKD0
              go_wp2_with fail
              refine (HKO.out _).mono ?_
              rintro e w' ⟨rfl, rfl⟩
              go_wp2_with fail
              refine (HU.out _).mono ?_
              rintro e w' ⟨rfl, rfl⟩
              have HFS := Lib.hid (show FS zs ts (k + 1) f0 fb a0' from FS.skip HFS0.out (.inr HU1.out))
              have x0 : wr.cell? ⟨L, 0, none⟩ = some (.slice (some ⟨L1, 0, none⟩) D D) := by rw [HAL.out.cell]; rfl
              clear HKK
              go_wp2_with fail
              go_quiet (fail)
              obtain ⟨wq, hwq⟩ : ∃ W, W = wr.drewN nq := ⟨_, rfl⟩
              have HBQ := Lib.hid (show Below Wz.heap.size Wz wq from by rw [hwq]; exact below_drewN HB.out _)
              rw [← hwq]
              clear hwq x0 HB HCLr HAL c0' cz clt
              go_wp2_with fail
              go_loopw [27] (fun i w2 => DL D wq i w2) (fun i _ => D - (intOf i).toNat)
              case atStart => exact ⟨0, Nat.zero_le _, rfl, Lib.hid (Below.refl _ _)⟩
              case round =>
                obtain ⟨j, hj, rfl, HB2⟩ := hrel
                have HB3 := Lib.hid (show Below Wz.heap.size Wz wr from HBQ.out.trans (HB2.out.mono HBQ.out.size))
                have A1 := HCL.out.below HB3.out HCL.out.lt
                have A2 := HALz.out.below HB3.out HALz.out.lt
                have A3 := HADz.out.below HB3.out HADz.out.lt
                have c0 : wr.cell? ⟨Rl, k, none⟩ = some (.pointer (some ⟨L, 0, none⟩)) := by rw [A1.cell]; exact HC0.out
                have x0 : wr.cell? ⟨L, 0, none⟩ = some (.slice (some ⟨L1, 0, none⟩) D D) := by rw [A2.cell]; rfl
                have l0 := A1.lt
                have l1 := A2.lt
                have l2 := A3.lt
                have j0 : (0 : Int) ≤ (j : Int) := Int.natCast_nonneg _
                by_cases hjd : j < D
                · have d2 : wr.cell? ⟨L1, j * 4 + 2, none⟩ = some .nilIface := by rw [A3.cell]; exact zd_get D j 2 hjd (by omega)
                  have j1 : (j : Int) < (D : Int) := by omega
                  clear A1 A2 A3
                  go_wp2_with fail
                  go_roundw
                  case rel => exact ⟨j + 1, by omega, by go_num, HB2⟩
                  case measure => simp [intOf]; omega
                · have e : j = D := by omega
                  subst e
                  clear A1 A2 A3
                  go_wp2_with fail
                  go_roundw
                  case rel => exact ⟨k + 1, _, _, _, by omega, by go_num, rfl, rfl, rfl, HFS, HB3⟩
                  case measure => simp [intOf]; omega
            | true =>
              have k34 : kk = 3 ∨ kk = 4 := by
                have h := hu.symm
                simp [isU] at h
                omega
              have HU1 := Lib.hid (show isU (kOf (kz zs k)) = true from by rw [← HKK.out]; exact hu.symm)
              have m1 : wr.cell? ⟨L, 1, none⟩ = some (.int .u8 K) := by rw [HAL.out.cell, ← HKD1.out HU1.out]; rfl
              clear hu HKD1
              rcases k34 with hkv | hkv
              · have HKV := Lib.hid hkv
                have hk1 : (kk == 4) = false := by rw [hkv]; rfl
                clear hkv
                cases fb with
                | true =>
                  go_wp2_with fail
                  refine (HKO.out _).mono ?_
                  rintro e w' ⟨rfl, rfl⟩
                  go_wp2_with fail
                  refine (HU.out _).mono ?_
                  rintro e w' ⟨rfl, rfl⟩
                  have HFS := Lib.hid (show FS zs ts (k + 1) f0 true a0' from FS.keep HFS0.out HK5.out (by rw [← HKK.out, HKV.out]; simp))
                  have x0 : wr.cell? ⟨L, 0, none⟩ = some (.slice (some ⟨L1, 0, none⟩) D D) := by rw [HAL.out.cell]; rfl
                  clear HKK HKV
                  go_wp2_with fail
                  go_quiet (fail)
                  obtain ⟨wq, hwq⟩ : ∃ W, W = wr.drewN nq := ⟨_, rfl⟩
                  have HBQ := Lib.hid (show Below Wz.heap.size Wz wq from by rw [hwq]; exact below_drewN HB.out _)
                  rw [← hwq]
                  clear hwq x0 HB HCLr HAL c0' cz clt
                  go_wp2_with fail
                  go_loopw [27] (fun i w2 => DL D wq i w2) (fun i _ => D - (intOf i).toNat)
                  case atStart => exact ⟨0, Nat.zero_le _, rfl, Lib.hid (Below.refl _ _)⟩
                  case round =>
                    obtain ⟨j, hj, rfl, HB2⟩ := hrel
                    have HB3 := Lib.hid (show Below Wz.heap.size Wz wr from HBQ.out.trans (HB2.out.mono HBQ.out.size))
                    have A1 := HCL.out.below HB3.out HCL.out.lt
                    have A2 := HALz.out.below HB3.out HALz.out.lt
                    have A3 := HADz.out.below HB3.out HADz.out.lt
                    have c0 : wr.cell? ⟨Rl, k, none⟩ = some (.pointer (some ⟨L, 0, none⟩)) := by rw [A1.cell]; exact HC0.out
                    have x0 : wr.cell? ⟨L, 0, none⟩ = some (.slice (some ⟨L1, 0, none⟩) D D) := by rw [A2.cell]; rfl
                    have l0 := A1.lt
                    have l1 := A2.lt
                    have l2 := A3.lt
                    have j0 : (0 : Int) ≤ (j : Int) := Int.natCast_nonneg _
                    by_cases hjd : j < D
                    · have d2 : wr.cell? ⟨L1, j * 4 + 2, none⟩ = some .nilIface := by rw [A3.cell]; exact zd_get D j 2 hjd (by omega)
                      have j1 : (j : Int) < (D : Int) := by omega
                      clear A1 A2 A3
                      go_wp2_with fail
                      go_roundw
                      case rel => exact ⟨j + 1, by omega, by go_num, HB2⟩
                      case measure => simp [intOf]; omega
                    · have e : j = D := by omega
                      subst e
                      clear A1 A2 A3
                      go_wp2_with fail
                      go_roundw
                      case rel => exact ⟨k + 1, _, _, _, by omega, by go_num, rfl, rfl, rfl, HFS, HB3⟩
                      case measure => simp [intOf]; omega
                | false =>
                  by_cases ht0 : t = 0
                  · have HT0 := Lib.hid ht0
                    have t1 : (t != 0) = false := by simp [ht0]
                    clear ht0
                    go_wp2_with fail
                    refine (HKO.out _).mono ?_
                    rintro e w' ⟨rfl, rfl⟩
                    go_wp2_with fail
                    refine (HU.out _).mono ?_
                    rintro e w' ⟨rfl, rfl⟩
                    have HFS := Lib.hid (show FS zs ts (k + 1) f0 false a0' from FS.zero HFS0.out HK5.out HU1.out (by rw [← HTT.out]; exact HT0.out.symm) (by rw [← HKK.out, HKV.out]; simp))
                    have x0 : wr.cell? ⟨L, 0, none⟩ = some (.slice (some ⟨L1, 0, none⟩) D D) := by rw [HAL.out.cell]; rfl
                    clear HKK HKV
                    go_wp2_with fail
                    go_quiet (fail)
                    obtain ⟨wq, hwq⟩ : ∃ W, W = wr.drewN nq := ⟨_, rfl⟩
                    have HBQ := Lib.hid (show Below Wz.heap.size Wz wq from by rw [hwq]; exact below_drewN HB.out _)
                    rw [← hwq]
                    clear hwq x0 HB HCLr HAL c0' cz clt
                    go_wp2_with fail
                    go_loopw [27] (fun i w2 => DL D wq i w2) (fun i _ => D - (intOf i).toNat)
                    case atStart => exact ⟨0, Nat.zero_le _, rfl, Lib.hid (Below.refl _ _)⟩
                    case round =>
                      obtain ⟨j, hj, rfl, HB2⟩ := hrel
                      have HB3 := Lib.hid (show Below Wz.heap.size Wz wr from HBQ.out.trans (HB2.out.mono HBQ.out.size))
                      have A1 := HCL.out.below HB3.out HCL.out.lt
                      have A2 := HALz.out.below HB3.out HALz.out.lt
                      have A3 := HADz.out.below HB3.out HADz.out.lt
                      have c0 : wr.cell? ⟨Rl, k, none⟩ = some (.pointer (some ⟨L, 0, none⟩)) := by rw [A1.cell]; exact HC0.out
                      have x0 : wr.cell? ⟨L, 0, none⟩ = some (.slice (some ⟨L1, 0, none⟩) D D) := by rw [A2.cell]; rfl
                      have l0 := A1.lt
                      have l1 := A2.lt
                      have l2 := A3.lt
                      have j0 : (0 : Int) ≤ (j : Int) := Int.natCast_nonneg _
                      by_cases hjd : j < D
                      · have d2 : wr.cell? ⟨L1, j * 4 + 2, none⟩ = some .nilIface := by rw [A3.cell]; exact zd_get D j 2 hjd (by omega)
                        have j1 : (j : Int) < (D : Int) := by omega
                        clear A1 A2 A3
                        go_wp2_with fail
                        go_roundw
                        case rel => exact ⟨j + 1, by omega, by go_num, HB2⟩
                        case measure => simp [intOf]; omega
                      · have e : j = D := by omega
                        subst e
                        clear A1 A2 A3
                        go_wp2_with fail
                        go_roundw
                        case rel => exact ⟨k + 1, _, _, _, by omega, by go_num, rfl, rfl, rfl, HFS, HB3⟩
                        case measure => simp [intOf]; omega
                  · have HT0 := Lib.hid ht0
                    have t1 : (t != 0) = true := by simp [ht0]
                    clear ht0
                    go_wp2_with fail
                    refine (HKO.out _).mono ?_
                    rintro e w' ⟨rfl, rfl⟩
                    go_wp2_with fail
                    refine (HU.out _).mono ?_
                    rintro e w' ⟨rfl, rfl⟩
                    have HFS := Lib.hid (show FS zs ts (k + 1) t true a0' from FS.take HFS0.out HK5.out HU1.out HTT.out (by simp [HT0.out]) (by rw [← HKK.out, HKV.out]; simp))
                    have x0 : wr.cell? ⟨L, 0, none⟩ = some (.slice (some ⟨L1, 0, none⟩) D D) := by rw [HAL.out.cell]; rfl
                    clear HKK HKV
                    go_wp2_with fail
                    go_quiet (fail)
                    obtain ⟨wq, hwq⟩ : ∃ W, W = wr.drewN nq := ⟨_, rfl⟩
                    have HBQ := Lib.hid (show Below Wz.heap.size Wz wq from by rw [hwq]; exact below_drewN HB.out _)
                    rw [← hwq]
                    clear hwq x0 HB HCLr HAL c0' cz clt
                    go_wp2_with fail
                    go_loopw [27] (fun i w2 => DL D wq i w2) (fun i _ => D - (intOf i).toNat)
                    case atStart => exact ⟨0, Nat.zero_le _, rfl, Lib.hid (Below.refl _ _)⟩
                    case round =>
                      obtain ⟨j, hj, rfl, HB2⟩ := hrel
                      have HB3 := Lib.hid (show Below Wz.heap.size Wz wr from HBQ.out.trans (HB2.out.mono HBQ.out.size))
                      have A1 := HCL.out.below HB3.out HCL.out.lt
                      have A2 := HALz.out.below HB3.out HALz.out.lt
                      have A3 := HADz.out.below HB3.out HADz.out.lt
                      have c0 : wr.cell? ⟨Rl, k, none⟩ = some (.pointer (some ⟨L, 0, none⟩)) := by rw [A1.cell]; exact HC0.out
                      have x0 : wr.cell? ⟨L, 0, none⟩ = some (.slice (some ⟨L1, 0, none⟩) D D) := by rw [A2.cell]; rfl
                      have l0 := A1.lt
                      have l1 := A2.lt
                      have l2 := A3.lt
                      have j0 : (0 : Int) ≤ (j : Int) := Int.natCast_nonneg _
                      by_cases hjd : j < D
                      · have d2 : wr.cell? ⟨L1, j * 4 + 2, none⟩ = some .nilIface := by rw [A3.cell]; exact zd_get D j 2 hjd (by omega)
                        have j1 : (j : Int) < (D : Int) := by omega
                        clear A1 A2 A3
                        go_wp2_with fail
                        go_roundw
                        case rel => exact ⟨j + 1, by omega, by go_num, HB2⟩
                        case measure => simp [intOf]; omega
                      · have e : j = D := by omega
                        subst e
                        clear A1 A2 A3
                        go_wp2_with fail
                        go_roundw
                        case rel => exact ⟨k + 1, _, _, _, by omega, by go_num, rfl, rfl, rfl, HFS, HB3⟩
                        case measure => simp [intOf]; omega
              · have HKV := Lib.hid hkv
                have hk1 : (kk == 4) = true := by rw [hkv]; rfl
                clear hkv
                cases fb with
                | true =>
                  go_wp2_with fail
                  refine (HKO.out _).mono ?_
                  rintro e w' ⟨rfl, rfl⟩
                  go_wp2_with fail
                  refine (HU.out _).mono ?_
                  rintro e w' ⟨rfl, rfl⟩
                  have HFS := Lib.hid (show FS zs ts (k + 1) f0 true true from FS.keep HFS0.out HK5.out (by rw [← HKK.out, HKV.out]; simp))
                  have x0 : wr.cell? ⟨L, 0, none⟩ = some (.slice (some ⟨L1, 0, none⟩) D D) := by rw [HAL.out.cell]; rfl
                  clear HKK HKV
                  go_wp2_with fail
                  go_quiet (fail)
                  obtain ⟨wq, hwq⟩ : ∃ W, W = wr.drewN nq := ⟨_, rfl⟩
                  have HBQ := Lib.hid (show Below Wz.heap.size Wz wq from by rw [hwq]; exact below_drewN HB.out _)
                  rw [← hwq]
                  clear hwq x0 HB HCLr HAL c0' cz clt
                  go_wp2_with fail
                  go_loopw [27] (fun i w2 => DL D wq i w2) (fun i _ => D - (intOf i).toNat)
                  case atStart => exact ⟨0, Nat.zero_le _, rfl, Lib.hid (Below.refl _ _)⟩
                  case round =>
                    obtain ⟨j, hj, rfl, HB2⟩ := hrel
                    have HB3 := Lib.hid (show Below Wz.heap.size Wz wr from HBQ.out.trans (HB2.out.mono HBQ.out.size))
                    have A1 := HCL.out.below HB3.out HCL.out.lt
                    have A2 := HALz.out.below HB3.out HALz.out.lt
                    have A3 := HADz.out.below HB3.out HADz.out.lt
                    have c0 : wr.cell? ⟨Rl, k, none⟩ = some (.pointer (some ⟨L, 0, none⟩)) := by rw [A1.cell]; exact HC0.out
                    have x0 : wr.cell? ⟨L, 0, none⟩ = some (.slice (some ⟨L1, 0, none⟩) D D) := by rw [A2.cell]; rfl
                    have l0 := A1.lt
                    have l1 := A2.lt
                    have l2 := A3.lt
                    have j0 : (0 : Int) ≤ (j : Int) := Int.natCast_nonneg _
                    by_cases hjd : j < D
                    · have d2 : wr.cell? ⟨L1, j * 4 + 2, none⟩ = some .nilIface := by rw [A3.cell]; exact zd_get D j 2 hjd (by omega)
                      have j1 : (j : Int) < (D : Int) := by omega
                      clear A1 A2 A3
                      go_wp2_with fail
                      go_roundw
                      case rel => exact ⟨j + 1, by omega, by go_num, HB2⟩
                      case measure => simp [intOf]; omega
                    · have e : j = D := by omega
                      subst e
                      clear A1 A2 A3
                      go_wp2_with fail
                      go_roundw
                      case rel => exact ⟨k + 1, _, _, _, by omega, by go_num, rfl, rfl, rfl, HFS, HB3⟩
                      case measure => simp [intOf]; omega
                | false =>
                  by_cases ht0 : t = 0
                  · have HT0 := Lib.hid ht0
                    have t1 : (t != 0) = false := by simp [ht0]
                    clear ht0
                    go_wp2_with fail
                    refine (HKO.out _).mono ?_
                    rintro e w' ⟨rfl, rfl⟩
                    go_wp2_with fail
                    refine (HU.out _).mono ?_
                    rintro e w' ⟨rfl, rfl⟩
                    have HFS := Lib.hid (show FS zs ts (k + 1) f0 false true from FS.zero HFS0.out HK5.out HU1.out (by rw [← HTT.out]; exact HT0.out.symm) (by rw [← HKK.out, HKV.out]; simp))
                    have x0 : wr.cell? ⟨L, 0, none⟩ = some (.slice (some ⟨L1, 0, none⟩) D D) := by rw [HAL.out.cell]; rfl
                    clear HKK HKV
                    go_wp2_with fail
                    go_quiet (fail)
                    obtain ⟨wq, hwq⟩ : ∃ W, W = wr.drewN nq := ⟨_, rfl⟩
                    have HBQ := Lib.hid (show Below Wz.heap.size Wz wq from by rw [hwq]; exact below_drewN HB.out _)
                    rw [← hwq]
                    clear hwq x0 HB HCLr HAL c0' cz clt
                    go_wp2_with fail
                    go_loopw [27] (fun i w2 => DL D wq i w2) (fun i _ => D - (intOf i).toNat)
                    case atStart => exact ⟨0, Nat.zero_le _, rfl, Lib.hid (Below.refl _ _)⟩
                    case round =>
                      obtain ⟨j, hj, rfl, HB2⟩ := hrel
                      have HB3 := Lib.hid (show Below Wz.heap.size Wz wr from HBQ.out.trans (HB2.out.mono HBQ.out.size))
                      have A1 := HCL.out.below HB3.out HCL.out.lt
                      have A2 := HALz.out.below HB3.out HALz.out.lt
                      have A3 := HADz.out.below HB3.out HADz.out.lt
                      have c0 : wr.cell? ⟨Rl, k, none⟩ = some (.pointer (some ⟨L, 0, none⟩)) := by rw [A1.cell]; exact HC0.out
                      have x0 : wr.cell? ⟨L, 0, none⟩ = some (.slice (some ⟨L1, 0, none⟩) D D) := by rw [A2.cell]; rfl
                      have l0 := A1.lt
                      have l1 := A2.lt
                      have l2 := A3.lt
                      have j0 : (0 : Int) ≤ (j : Int) := Int.natCast_nonneg _
                      by_cases hjd : j < D
                      · have d2 : wr.cell? ⟨L1, j * 4 + 2, none⟩ = some .nilIface := by rw [A3.cell]; exact zd_get D j 2 hjd (by omega)
                        have j1 : (j : Int) < (D : Int) := by omega
                        clear A1 A2 A3
                        go_wp2_with fail
                        go_roundw
                        case rel => exact ⟨j + 1, by omega, by go_num, HB2⟩
                        case measure => simp [intOf]; omega
                      · have e : j = D := by omega
                        subst e
                        clear A1 A2 A3
                        go_wp2_with fail
                        go_roundw
                        case rel => exact ⟨k + 1, _, _, _, by omega, by go_num, rfl, rfl, rfl, HFS, HB3⟩
                        case measure => simp [intOf]; omega
                  · have HT0 := Lib.hid ht0
                    have t1 : (t != 0) = true := by simp [ht0]
                    clear ht0
                    go_wp2_with fail
                    refine (HKO.out _).mono ?_
                    rintro e w' ⟨rfl, rfl⟩
                    go_wp2_with fail
                    refine (HU.out _).mono ?_
                    rintro e w' ⟨rfl, rfl⟩
                    have HFS := Lib.hid (show FS zs ts (k + 1) t true true from FS.take HFS0.out HK5.out HU1.out HTT.out (by simp [HT0.out]) (by rw [← HKK.out, HKV.out]; simp))
                    have x0 : wr.cell? ⟨L, 0, none⟩ = some (.slice (some ⟨L1, 0, none⟩) D D) := by rw [HAL.out.cell]; rfl
                    clear HKK HKV
                    go_wp2_with fail
                    go_quiet (fail)
                    obtain ⟨wq, hwq⟩ : ∃ W, W = wr.drewN nq := ⟨_, rfl⟩
                    have HBQ := Lib.hid (show Below Wz.heap.size Wz wq from by rw [hwq]; exact below_drewN HB.out _)
                    rw [← hwq]
                    clear hwq x0 HB HCLr HAL c0' cz clt
                    go_wp2_with fail
                    go_loopw [27] (fun i w2 => DL D wq i w2) (fun i _ => D - (intOf i).toNat)
                    case atStart => exact ⟨0, Nat.zero_le _, rfl, Lib.hid (Below.refl _ _)⟩
                    case round =>
                      obtain ⟨j, hj, rfl, HB2⟩ := hrel
                      have HB3 := Lib.hid (show Below Wz.heap.size Wz wr from HBQ.out.trans (HB2.out.mono HBQ.out.size))
                      have A1 := HCL.out.below HB3.out HCL.out.lt
                      have A2 := HALz.out.below HB3.out HALz.out.lt
                      have A3 := HADz.out.below HB3.out HADz.out.lt
                      have c0 : wr.cell? ⟨Rl, k, none⟩ = some (.pointer (some ⟨L, 0, none⟩)) := by rw [A1.cell]; exact HC0.out
                      have x0 : wr.cell? ⟨L, 0, none⟩ = some (.slice (some ⟨L1, 0, none⟩) D D) := by rw [A2.cell]; rfl
                      have l0 := A1.lt
                      have l1 := A2.lt
                      have l2 := A3.lt
                      have j0 : (0 : Int) ≤ (j : Int) := Int.natCast_nonneg _
                      by_cases hjd : j < D
                      · have d2 : wr.cell? ⟨L1, j * 4 + 2, none⟩ = some .nilIface := by rw [A3.cell]; exact zd_get D j 2 hjd (by omega)
                        have j1 : (j : Int) < (D : Int) := by omega
                        clear A1 A2 A3
                        go_wp2_with fail
                        go_roundw
                        case rel => exact ⟨j + 1, by omega, by go_num, HB2⟩
                        case measure => simp [intOf]; omega
                      · have e : j = D := by omega
                        subst e
                        clear A1 A2 A3
                        go_wp2_with fail
                        go_roundw
                        case rel => exact ⟨k + 1, _, _, _, by omega, by go_num, rfl, rfl, rfl, HFS, HB3⟩
                        case measure => simp [intOf]; omega
        · have e : k = len1 := by omega
          have HXr := HX7.out.below HB.out HX7.out.lt
          have HPr := Lib.hid (HP7.out.below HB.out)
          obtain ⟨hf1, hf2, hf3⟩ := HFS0.out
          rw [e] at hf1 hf3
          rw [← hf1, ← hf3] at HXr
          have x0 : wr.cell? ⟨x, 0, none⟩ = some (.int .i32 f0) := by rw [HXr.cell]; rfl
          have x3 : wr.cell? ⟨x, 3, none⟩ = some (.bool a0') := by rw [HXr.cell]; rfl
          have BWr := Lib.hid (show Below w.heap.size w wr from BW.out.trans (HB.out.mono BW.out.size))
          have ne1 : (f0 != f0) = false := by simp
          have ne2 : (a0' != a0') = false := by simp
          have k1 : ¬ ((k : Int) < (len1 : Int)) := by omega
          have HFU := Lib.hid (firstUsing x f0 wr x0)
          have HHA := Lib.hid (hasAwait x a0' wr x3)
          clear hf1 hf2 hf3 HXr HB HFS0 e x0 x3
          go_wp2_with fail
          refine HFU.out.mono ?_
          rintro e w' ⟨rfl, rfl⟩
          go_wp2_with fail
          refine HHA.out.mono ?_
          rintro e w' ⟨rfl, rfl⟩
          go_wp2_with fail
          refine (scount B0 b 0 false _ _ _ HPr.out).mono ?_
          rintro e w' ⟨rfl, rfl⟩
          go_wp2_with fail
          go_ret
          exact ⟨rfl, BWr.out⟩
    · have hl1 : ¬ (len1 : Int) < (len0 : Int) := by omega
      go_wp2_with fail
      refine (scanParser a2 a3 a4 a5 a6 w2).mono ?_
      rintro e w3 ⟨b, c, v, xs, B0, rfl, ⟨hB0, hBb, hcB⟩, hps, hpf, hz3, hcc, hvn, hb3⟩
      have HPS := Lib.hid hps
      have HPF := Lib.hid hpf
      have HCC := Lib.hid hcc
      have HVN := Lib.hid hvn
      have R0 := Lib.hid (HR0.out.below hb3)
      have R1 := Lib.hid (HR1.out.below hb3)
      have C3 := Lib.hid hb3
      have lb3 : b < w3.heap.size := by obtain ⟨_, _, h66, _⟩ := hps; exact World.block_lt_of_cell? _ _ h66
      have lc3 : c < w3.heap.size := by omega
      clear hps hpf hcc hvn hb3
      go_wp2_with fail
      refine (build len0 len0 len1 c0 c1 b0 b1 zs ts (by omega) (by omega) (by omega) HZ.out w3 R0.out R1.out).mono ?_
      rintro e w4 ⟨cs, cl, lo, rfl, hA, hL, hCV, hLV, hlo, hmo, hb4⟩
      obtain ⟨Rs, hRs⟩ : ∃ x, x = w3.heap.size := ⟨_, rfl⟩
      obtain ⟨Rl, hRl⟩ : ∃ x, x = Rs + 1 := ⟨_, rfl⟩
      rw [← hRs] at hA hlo hL
      rw [← hRl] at hL
      rw [← hRs, ← hRl]
      have lRs : Rs < w4.heap.size := hA.lt
      have lRl : Rl < w4.heap.size := hL.lt
      have HP4 := Lib.hid (HPS.out.below hb4)
      have HF4 := Lib.hid (HPF.out.below hb4)
      have HC4 := Lib.hid (kept hb4 HCC.out)
      have C4 := Lib.hid (show Below w2.heap.size w2 w4 from C3.out.trans (hb4.mono C3.out.size))
      have g04 := kept (HB2.out.trans (C4.out.mono HB2.out.size)) hg0
      have g14 := kept (HB2.out.trans (C4.out.mono HB2.out.size)) hg1
      have zz : w.heap.size ≤ w2.heap.size ∧ w2.heap.size ≤ B0 ∧ B0 ≤ b ∧ b < Rs ∧ c < Rs ∧ Rs + 1 ≤ Rl ∧ Rl ≤ Rs + 1 ∧ c < B0 ∧ B0 ≤ w4.heap.size ∧ B0 ≤ Rs := by
        have := hb4.size
        have := HB2.out.size
        omega
      have HA := Lib.hid hA
      have HL := Lib.hid hL
      have HV := Lib.hid hCV
      have HLV := Lib.hid hLV
      have HLO := Lib.hid hlo
      have HMO := Lib.hid hmo
      clear hA hL hCV hLV hlo hmo hb4 HPS HPF HCC R0 R1 C3 hRs hRl hB0 hBb hcB hz3 lb3 lc3
      go_wp2_with fail
      refine (znc B0 b 0 0 xs w4 (by omega) (by omega) (by omega) (by omega) g04 g14 HP4.out).mono ?_
      rintro e w5 ⟨rfl, hp5, hk5, hb5, hs5⟩
      have z5 := hb5.size
      have HP5 := Lib.hid hp5
      have HF5 := Lib.hid (HF4.out.sb hs5)
      have HC5 := Lib.hid (show w5.cell? ⟨c, 1, none⟩ = some (.pointer v) from (hb5.cell (p := ⟨c, 1, none⟩) (by simp; omega)).trans HC4.out)
      have HA5 := Lib.hid (show At w5 Rs 248 cs from (hk5.block HA.out (by omega) (by decide)).trans HA.out)
      have HL5 := Lib.hid (show At w5 Rl 60 cl from (hk5.block HL.out (by omega) (by decide)).trans HL.out)
      have HLV5 := Lib.hid (show LV len0 zs lo (fun i => kOf (kz zs i)) w5 from fun i hi h5 => by
        have l := HLO.out i hi
        obtain ⟨h1, h2⟩ := HLV.out i hi h5
        exact ⟨(hk5.block h1 (by omega) (by decide)).trans h1, (hk5.block h2 (by omega) (by decide)).trans h2⟩)
      have C5 := Lib.hid (show Below w2.heap.size w2 w5 from C4.out.trans (hb5.mono (by omega)))
      clear hp5 hk5 hb5 hs5 HP4 HF4 HC4 HA HL HLV C4 g04 g14
      go_wp2_with fail
      obtain ⟨x, hx⟩ : ∃ x, x = w5.heap.size := ⟨_, rfl⟩
      rw [← hx]
      have lx5 : w5.heap.size ≤ x := by omega
      obtain ⟨W6, hW6⟩ : ∃ W, W = w5.alloc (.cells #[.int .i32 0, .int .u32 0, .int .u32 0, .bool false] 53) := ⟨_, rfl⟩
      rw [← hW6]
      have AX6 : At W6 x 53 #[.int .i32 0, .int .u32 0, .int .u32 0, .bool false] := by rw [hW6, hx]; exact At.new _ _ _
      have hb6 : Below w5.heap.size w5 W6 := by rw [hW6]; exact (Below.refl _ _).alloc (Nat.le_refl _) _
      have z6 : w5.heap.size < W6.heap.size := by rw [hW6]; simp
      have HP6 := Lib.hid (HP5.out.below hb6)
      have HF6 := HF5.out.below hb6
      have HC6 := kept hb6 HC5.out
      have HA6 := HA5.out.below hb6 HA5.out.lt
      have HL6 := HL5.out.below hb6 HL5.out.lt
      have HLV6 := Lib.hid (show LV len0 zs lo (fun i => kOf (kz zs i)) W6 from HLV5.out.keep (fun i hi => by
        have l := HLO.out i hi
        exact ⟨hb6.block _ (by omega), hb6.block _ (by omega)⟩))
      have C6 := Lib.hid (show Below w2.heap.size w2 W6 from C5.out.trans (hb6.mono C5.out.size))
      have SCN := Lib.hid (zscan (scan a2 a3 a4 a5 a6 len0 x (Rs + 2) b c Rs v zs ts lo cs cl 0 0 W6 (by omega) HZ.out HF6 HC6 HVN.out HA6 HV.out HLV6.out (fun i hi => by have l := HLO.out i hi; omega) HMO.out AX6 (by omega) (by omega) (by omega) (by omega) (by omega)))
      have HAX6 := Lib.hid AX6
      have HL6' := Lib.hid HL6
      clear hW6 hb6 HF6 HC6 HA6 HL6 AX6 HP5 HF5 HC5 HA5 HL5 HLV5 C5 hx
      refine (scount B0 b 0 false _ _ W6 HP6.out).mono ?_
      rintro e w' ⟨rfl, rfl⟩
      go_wp2_with fail
      refine SCN.out.mono ?_
      rintro e w7 ⟨rfl, hSX⟩
      obtain ⟨K, hK⟩ : ∃ K, K = kX a2 a3 a4 a5 a6 := ⟨_, rfl⟩
      rw [← hK] at hSX
      have HEX := Lib.hid (fun W => expected a2 a3 a4 a5 a6 W)
      rw [← hK] at HEX
      obtain ⟨hlv7, hax7, hfr7, hb7⟩ := hSX
      have z7 := hb7.size
      have HP7 := Lib.hid (PS.scanned HP6.out HAX6.out HLV6.out (by omega) hb7 hfr7)
      have HCL := Lib.hid (show At w7 Rl 60 cl from (hb7.block Rl (by omega)).trans HL6'.out)
      have HLV7 := Lib.hid hlv7
      have HX7 := Lib.hid hax7
      have C7 := Lib.hid (show Below w2.heap.size w2 w7 from C6.out.trans (hb7.mono (by omega)))
      have R0 := Lib.hid (HR0.out.below C7.out)
      have R1 := Lib.hid (HR1.out.below C7.out)
      have BW := Lib.hid (show Below w.heap.size w w7 from HB2.out.trans (C7.out.mono HB2.out.size))
      clear hlv7 hax7 hfr7 hb7 hK HP6 HAX6 HLV6 HL6' SCN C6 C7 HR0 HR1 HB2
      go_wp2_with fail
      refine (HEX.out _).mono ?_
      rintro e w' ⟨rfl, rfl⟩
      clear HEX
      go_wp2_with fail
      obtain ⟨Wz, hWz⟩ : ∃ W, W = w7 := ⟨_, rfl⟩
      rw [← hWz] at HP7 HCL HLV7 HX7 R0 R1 BW ⊢
      clear hWz
      go_loopw [22, 23, 24, 25] (fun a b c i wr => LX len0 zs ts Wz a b c i wr) (fun _ _ _ i _ => len0 - (intOf i).toNat)
      case atStart => exact ⟨0, 0, false, false, Nat.zero_le _, rfl, rfl, rfl, rfl, Lib.hid ⟨rfl, rfl, rfl⟩, Lib.hid (Below.refl _ _)⟩
      case round =>
        obtain ⟨k, f0, fb, a0', hk, rfl, rfl, rfl, rfl, HFS0, HB⟩ := hrel
        by_cases hkn : k < len0
        · have HCLr := Lib.hid (HCL.out.below HB.out HCL.out.lt)
          obtain ⟨_, q2, q3⟩ := HV.out k hkn
          have k0 : (0 : Int) ≤ (k : Int) := Int.natCast_nonneg _
          have k1 : (k : Int) < (len0 : Int) := by omega
          have k2 : (k : Int) < (len0 : Int) := by omega
          have k3 : (k : Int) < (len1 : Int) := by omega
          have clt := HCLr.out.lt
          by_cases h5 : kz zs k = 5
          · have c0' : wr.cell? ⟨Rl, k, none⟩ = some (.pointer none) := by rw [HCLr.out.cell]; exact (q2 h5).2
            have HFS := Lib.hid (FS.skip HFS0.out (.inl h5))
            clear h5 q2 q3 HCLr HFS0
            go_wp2_with fail
            go_roundw
            case rel => exact ⟨k + 1, _, _, _, by omega, by go_num, rfl, rfl, rfl, HFS, HB⟩
            case measure => simp [intOf]; omega
          · have HC0 := Lib.hid ((q3 h5).2)
            have c0' : wr.cell? ⟨Rl, k, none⟩ = some (.pointer (some ⟨lo k, 0, none⟩)) := by rw [HCLr.out.cell]; exact HC0.out
            obtain ⟨al, ad⟩ := HLV7.out k hkn h5
            have HK5 := Lib.hid h5
            have HKD0 := Lib.hid (show isU (kOf (kz zs k)) = false → kdAt K zs len0 k = kOf (kz zs k) from fun h => by simp [kdAt, h])
            have HKD1 := Lib.hid (show isU (kOf (kz zs k)) = true → kdAt K zs len0 k = K from fun h => by simp [kdAt, h, hkn])
            obtain ⟨kd, hkd⟩ : ∃ x, x = kdAt K zs len0 k := ⟨_, rfl⟩
            rw [← hkd] at al HKD0 HKD1
            obtain ⟨kk, hkk⟩ : ∃ x, x = kOf (kz zs k) := ⟨_, rfl⟩
            have kr := kz_range HZ.out k
            have kk4 : 0 ≤ kk ∧ kk ≤ 4 := by rw [hkk]; unfold kOf; repeat' split
                                             all_goals omega
            obtain ⟨B1, o1, rfl, hc1⟩ := R0.out (by omega)
            obtain ⟨B2, o2, rfl, hc2⟩ := R1.out (by omega)
            have cz := kept HB.out (hc1 k (by omega))
            have ct := kept HB.out (hc2 k (by omega))
            obtain ⟨z, hzz⟩ : ∃ z, z = zs.getD k 0 := ⟨_, rfl⟩
            obtain ⟨t, htt⟩ : ∃ t, t = ts.getD k 0 := ⟨_, rfl⟩
            obtain ⟨zz0, zz1⟩ := HZ.out k
            simp only [← hzz] at cz zz0 zz1
            simp only [← htt] at ct
            have hkz : kz zs k = z % 6 := by unfold kz; rw [hzz]
            have hdz : dz zs k = (z / 6 % 3).toNat := by unfold dz; rw [hzz]
            have HKO := Lib.hid (fun W => kindOf (z % 6) W (by omega) (by omega))
            rw [← hkz, ← hkk] at HKO
            rw [hkz] at HKO
            have HU := Lib.hid (fun W => isUsingK kk W kk4.1 kk4.2)
            obtain ⟨D, hD⟩ : ∃ D, D = dz zs k := ⟨_, rfl⟩
            rw [← hD] at al ad hdz
            have hwd' : (IntKind.i64.wrap (IntKind.u8.wrap (z.tdiv 6))).tmod 3 = (D : Int) := by rw [hwd z zz0 zz1, hdz]; omega
            have hD2 : D ≤ 2 := by rw [hdz]; omega
            have hwd2 : ((D : Int) != z / 6 % 3) = false := by rw [hdz]; simp; omega
            obtain ⟨L, hL⟩ : ∃ L, L = lo k := ⟨_, rfl⟩
            rw [← hL] at HC0 c0' al ad
            obtain ⟨L1, hL1⟩ : ∃ L1, L1 = L - 1 := ⟨_, rfl⟩
            rw [← hL1] at al ad
            have HALz := Lib.hid al
            have HADz := Lib.hid ad
            have HAL := Lib.hid (al.below HB.out al.lt)
            have HADr := Lib.hid (ad.below HB.out ad.lt)
            have lL := HAL.out.lt
            have lB1 := World.block_lt_of_cell? _ _ cz
            have lB2 := World.block_lt_of_cell? _ _ ct
            have HTT := Lib.hid htt
            have HKK := Lib.hid hkk
            obtain ⟨u, hu⟩ : ∃ u, u = isU kk := ⟨_, rfl⟩
            rw [← hu] at HU
            clear h5 q2 q3 al ad hc1 hc2 hzz htt hkk hkd hL hL1 hkz hdz hD
            cases u with
            | false =>
              have HU1 := Lib.hid (show isU (kOf (kz zs k)) = false from by rw [← HKK.out]; exact hu.symm)
              have m1 : wr.cell? ⟨L, 1, none⟩ = some (.int .u8 kk) := by rw [HAL.out.cell, HKK.out, ← HKD0.out HU1.out]; rfl
              clear hu HKD1 HKD0
              go_wp2_with fail
              refine (HKO.out _).mono ?_
              rintro e w' ⟨rfl, rfl⟩
              go_wp2_with fail
              refine (HU.out _).mono ?_
              rintro e w' ⟨rfl, rfl⟩
              have HFS := Lib.hid (show FS zs ts (k + 1) f0 fb a0' from FS.skip HFS0.out (.inr HU1.out))
              have x0 : wr.cell? ⟨L, 0, none⟩ = some (.slice (some ⟨L1, 0, none⟩) D D) := by rw [HAL.out.cell]; rfl
              clear HKK
              go_wp2_with fail
              go_quiet (fail)
              obtain ⟨wq, hwq⟩ : ∃ W, W = wr.drewN nq := ⟨_, rfl⟩
              have HBQ := Lib.hid (show Below Wz.heap.size Wz wq from by rw [hwq]; exact below_drewN HB.out _)
              rw [← hwq]
              clear hwq x0 HB HCLr HAL c0' cz clt
              go_wp2_with fail
              go_loopw [27] (fun i w2 => DL D wq i w2) (fun i _ => D - (intOf i).toNat)
              case atStart => exact ⟨0, Nat.zero_le _, rfl, Lib.hid (Below.refl _ _)⟩
              case round =>
                obtain ⟨j, hj, rfl, HB2⟩ := hrel
                have HB3 := Lib.hid (show Below Wz.heap.size Wz wr from HBQ.out.trans (HB2.out.mono HBQ.out.size))
                have A1 := HCL.out.below HB3.out HCL.out.lt
                have A2 := HALz.out.below HB3.out HALz.out.lt
                have A3 := HADz.out.below HB3.out HADz.out.lt
                have c0 : wr.cell? ⟨Rl, k, none⟩ = some (.pointer (some ⟨L, 0, none⟩)) := by rw [A1.cell]; exact HC0.out
                have x0 : wr.cell? ⟨L, 0, none⟩ = some (.slice (some ⟨L1, 0, none⟩) D D) := by rw [A2.cell]; rfl
                have l0 := A1.lt
                have l1 := A2.lt
                have l2 := A3.lt
                have j0 : (0 : Int) ≤ (j : Int) := Int.natCast_nonneg _
                by_cases hjd : j < D
                · have d2 : wr.cell? ⟨L1, j * 4 + 2, none⟩ = some .nilIface := by rw [A3.cell]; exact zd_get D j 2 hjd (by omega)
                  have j1 : (j : Int) < (D : Int) := by omega
                  clear A1 A2 A3
                  go_wp2_with fail
                  go_roundw
                  case rel => exact ⟨j + 1, by omega, by go_num, HB2⟩
                  case measure => simp [intOf]; omega
                · have e : j = D := by omega
                  subst e
                  clear A1 A2 A3
                  go_wp2_with fail
                  go_roundw
                  case rel => exact ⟨k + 1, _, _, _, by omega, by go_num, rfl, rfl, rfl, HFS, HB3⟩
                  case measure => simp [intOf]; omega
            | true =>
              have k34 : kk = 3 ∨ kk = 4 := by
                have h := hu.symm
                simp [isU] at h
                omega
              have HU1 := Lib.hid (show isU (kOf (kz zs k)) = true from by rw [← HKK.out]; exact hu.symm)
              have m1 : wr.cell? ⟨L, 1, none⟩ = some (.int .u8 K) := by rw [HAL.out.cell, ← HKD1.out HU1.out]; rfl
              clear hu HKD1
              rcases k34 with hkv | hkv
              · have HKV := Lib.hid hkv
                have hk1 : (kk == 4) = false := by rw [hkv]; rfl
                clear hkv
                cases fb with
                | true =>
                  go_wp2_with fail
                  refine (HKO.out _).mono ?_
                  rintro e w' ⟨rfl, rfl⟩
                  go_wp2_with fail
                  refine (HU.out _).mono ?_
                  rintro e w' ⟨rfl, rfl⟩
                  have HFS := Lib.hid (show FS zs ts (k + 1) f0 true a0' from FS.keep HFS0.out HK5.out (by rw [← HKK.out, HKV.out]; simp))
                  have x0 : wr.cell? ⟨L, 0, none⟩ = some (.slice (some ⟨L1, 0, none⟩) D D) := by rw [HAL.out.cell]; rfl
                  clear HKK HKV
                  go_wp2_with fail
                  go_quiet (fail)
                  obtain ⟨wq, hwq⟩ : ∃ W, W = wr.drewN nq := ⟨_, rfl⟩
                  have HBQ := Lib.hid (show Below Wz.heap.size Wz wq from by rw [hwq]; exact below_drewN HB.out _)
                  rw [← hwq]
                  clear hwq x0 HB HCLr HAL c0' cz clt
                  go_wp2_with fail
                  go_loopw [27] (fun i w2 => DL D wq i w2) (fun i _ => D - (intOf i).toNat)
                  case atStart => exact ⟨0, Nat.zero_le _, rfl, Lib.hid (Below.refl _ _)⟩
                  case round =>
                    obtain ⟨j, hj, rfl, HB2⟩ := hrel
                    have HB3 := Lib.hid (show Below Wz.heap.size Wz wr from HBQ.out.trans (HB2.out.mono HBQ.out.size))
                    have A1 := HCL.out.below HB3.out HCL.out.lt
                    have A2 := HALz.out.below HB3.out HALz.out.lt
                    have A3 := HADz.out.below HB3.out HADz.out.lt
                    have c0 : wr.cell? ⟨Rl, k, none⟩ = some (.pointer (some ⟨L, 0, none⟩)) := by rw [A1.cell]; exact HC0.out
                    have x0 : wr.cell? ⟨L, 0, none⟩ = some (.slice (some ⟨L1, 0, none⟩) D D) := by rw [A2.cell]; rfl
                    have l0 := A1.lt
                    have l1 := A2.lt
                    have l2 := A3.lt
                    have j0 : (0 : Int) ≤ (j : Int) := Int.natCast_nonneg _
                    by_cases hjd : j < D
                    · have d2 : wr.cell? ⟨L1, j * 4 + 2, none⟩ = some .nilIface := by rw [A3.cell]; exact zd_get D j 2 hjd (by omega)
                      have j1 : (j : Int) < (D : Int) := by omega
                      clear A1 A2 A3
                      go_wp2_with fail
                      go_roundw
                      case rel => exact ⟨j + 1, by omega, by go_num, HB2⟩
                      case measure => simp [intOf]; omega
                    · have e : j = D := by omega
                      subst e
                      clear A1 A2 A3
                      go_wp2_with fail
                      go_roundw
                      case rel => exact ⟨k + 1, _, _, _, by omega, by go_num, rfl, rfl, rfl, HFS, HB3⟩
                      case measure => simp [intOf]; omega
                | false =>
                  by_cases ht0 : t = 0
                  · have HT0 := Lib.hid ht0
                    have t1 : (t != 0) = false := by simp [ht0]
                    clear ht0
                    go_wp2_with fail
                    refine (HKO.out _).mono ?_
                    rintro e w' ⟨rfl, rfl⟩
                    go_wp2_with fail
                    refine (HU.out _).mono ?_
                    rintro e w' ⟨rfl, rfl⟩
                    have HFS := Lib.hid (show FS zs ts (k + 1) f0 false a0' from FS.zero HFS0.out HK5.out HU1.out (by rw [← HTT.out]; exact HT0.out.symm) (by rw [← HKK.out, HKV.out]; simp))
                    have x0 : wr.cell? ⟨L, 0, none⟩ = some (.slice (some ⟨L1, 0, none⟩) D D) := by rw [HAL.out.cell]; rfl
                    clear HKK HKV
                    go_wp2_with fail
                    go_quiet (fail)
                    obtain ⟨wq, hwq⟩ : ∃ W, W = wr.drewN nq := ⟨_, rfl⟩
                    have HBQ := Lib.hid (show Below Wz.heap.size Wz wq from by rw [hwq]; exact below_drewN HB.out _)
                    rw [← hwq]
                    clear hwq x0 HB HCLr HAL c0' cz clt
                    go_wp2_with fail
                    go_loopw [27] (fun i w2 => DL D wq i w2) (fun i _ => D - (intOf i).toNat)
                    case atStart => exact ⟨0, Nat.zero_le _, rfl, Lib.hid (Below.refl _ _)⟩
                    case round =>
                      obtain ⟨j, hj, rfl, HB2⟩ := hrel
                      have HB3 := Lib.hid (show Below Wz.heap.size Wz wr from HBQ.out.trans (HB2.out.mono HBQ.out.size))
                      have A1 := HCL.out.below HB3.out HCL.out.lt
                      have A2 := HALz.out.below HB3.out HALz.out.lt
                      have A3 := HADz.out.below HB3.out HADz.out.lt
                      have c0 : wr.cell? ⟨Rl, k, none⟩ = some (.pointer (some ⟨L, 0, none⟩)) := by rw [A1.cell]; exact HC0.out
                      have x0 : wr.cell? ⟨L, 0, none⟩ = some (.slice (some ⟨L1, 0, none⟩) D D) := by rw [A2.cell]; rfl
                      have l0 := A1.lt
                      have l1 := A2.lt
                      have l2 := A3.lt
                      have j0 : (0 : Int) ≤ (j : Int) := Int.natCast_nonneg _
                      by_cases hjd : j < D
                      · have d2 : wr.cell? ⟨L1, j * 4 + 2, none⟩ = some .nilIface := by rw [A3.cell]; exact zd_get D j 2 hjd (by omega)
                        have j1 : (j : Int) < (D : Int) := by omega
                        clear A1 A2 A3
                        go_wp2_with fail
                        go_roundw
                        case rel => exact ⟨j + 1, by omega, by go_num, HB2⟩
                        case measure => simp [intOf]; omega
                      · have e : j = D := by omega
                        subst e
                        clear A1 A2 A3
                        go_wp2_with fail
                        go_roundw
                        case rel => exact ⟨k + 1, _, _, _, by omega, by go_num, rfl, rfl, rfl, HFS, HB3⟩
                        case measure => simp [intOf]; omega
                  · have HT0 := Lib.hid ht0
                    have t1 : (t != 0) = true := by simp [ht0]
                    clear ht0
                    go_wp2_with fail
                    refine (HKO.out _).mono ?_
                    rintro e w' ⟨rfl, rfl⟩
                    go_wp2_with fail
                    refine (HU.out _).mono ?_
                    rintro e w' ⟨rfl, rfl⟩
                    have HFS := Lib.hid (show FS zs ts (k + 1) t true a0' from FS.take HFS0.out HK5.out HU1.out HTT.out (by simp [HT0.out]) (by rw [← HKK.out, HKV.out]; simp))
                    have x0 : wr.cell? ⟨L, 0, none⟩ = some (.slice (some ⟨L1, 0, none⟩) D D) := by rw [HAL.out.cell]; rfl
                    clear HKK HKV
                    go_wp2_with fail
                    go_quiet (fail)
                    obtain ⟨wq, hwq⟩ : ∃ W, W = wr.drewN nq := ⟨_, rfl⟩
                    have HBQ := Lib.hid (show Below Wz.heap.size Wz wq from by rw [hwq]; exact below_drewN HB.out _)
                    rw [← hwq]
                    clear hwq x0 HB HCLr HAL c0' cz clt
                    go_wp2_with fail
                    go_loopw [27] (fun i w2 => DL D wq i w2) (fun i _ => D - (intOf i).toNat)
                    case atStart => exact ⟨0, Nat.zero_le _, rfl, Lib.hid (Below.refl _ _)⟩
                    case round =>
                      obtain ⟨j, hj, rfl, HB2⟩ := hrel
                      have HB3 := Lib.hid (show Below Wz.heap.size Wz wr from HBQ.out.trans (HB2.out.mono HBQ.out.size))
                      have A1 := HCL.out.below HB3.out HCL.out.lt
                      have A2 := HALz.out.below HB3.out HALz.out.lt
                      have A3 := HADz.out.below HB3.out HADz.out.lt
                      have c0 : wr.cell? ⟨Rl, k, none⟩ = some (.pointer (some ⟨L, 0, none⟩)) := by rw [A1.cell]; exact HC0.out
                      have x0 : wr.cell? ⟨L, 0, none⟩ = some (.slice (some ⟨L1, 0, none⟩) D D) := by rw [A2.cell]; rfl
                      have l0 := A1.lt
                      have l1 := A2.lt
                      have l2 := A3.lt
                      have j0 : (0 : Int) ≤ (j : Int) := Int.natCast_nonneg _
                      by_cases hjd : j < D
                      · have d2 : wr.cell? ⟨L1, j * 4 + 2, none⟩ = some .nilIface := by rw [A3.cell]; exact zd_get D j 2 hjd (by omega)
                        have j1 : (j : Int) < (D : Int) := by omega
                        clear A1 A2 A3
                        go_wp2_with fail
                        go_roundw
                        case rel => exact ⟨j + 1, by omega, by go_num, HB2⟩
                        case measure => simp [intOf]; omega
                      · have e : j = D := by omega
                        subst e
                        clear A1 A2 A3
                        go_wp2_with fail
                        go_roundw
                        case rel => exact ⟨k + 1, _, _, _, by omega, by go_num, rfl, rfl, rfl, HFS, HB3⟩
                        case measure => simp [intOf]; omega
              · have HKV := Lib.hid hkv
                have hk1 : (kk == 4) = true := by rw [hkv]; rfl
                clear hkv
                cases fb with
                | true =>
                  go_wp2_with fail
                  refine (HKO.out _).mono ?_
                  rintro e w' ⟨rfl, rfl⟩
                  go_wp2_with fail
                  refine (HU.out _).mono ?_
                  rintro e w' ⟨rfl, rfl⟩
                  have HFS := Lib.hid (show FS zs ts (k + 1) f0 true true from FS.keep HFS0.out HK5.out (by rw [← HKK.out, HKV.out]; simp))
                  have x0 : wr.cell? ⟨L, 0, none⟩ = some (.slice (some ⟨L1, 0, none⟩) D D) := by rw [HAL.out.cell]; rfl
                  clear HKK HKV
                  go_wp2_with fail
                  go_quiet (fail)
                  obtain ⟨wq, hwq⟩ : ∃ W, W = wr.drewN nq := ⟨_, rfl⟩
                  have HBQ := Lib.hid (show Below Wz.heap.size Wz wq from by rw [hwq]; exact below_drewN HB.out _)
                  rw [← hwq]
                  clear hwq x0 HB HCLr HAL c0' cz clt
                  go_wp2_with fail
                  go_loopw [27] (fun i w2 => DL D wq i w2) (fun i _ => D - (intOf i).toNat)
                  case atStart => exact ⟨0, Nat.zero_le _, rfl, Lib.hid (Below.refl _ _)⟩
                  case round =>
                    obtain ⟨j, hj, rfl, HB2⟩ := hrel
                    have HB3 := Lib.hid (show Below Wz.heap.size Wz wr from HBQ.out.trans (HB2.out.mono HBQ.out.size))
                    have A1 := HCL.out.below HB3.out HCL.out.lt
                    have A2 := HALz.out.below HB3.out HALz.out.lt
                    have A3 := HADz.out.below HB3.out HADz.out.lt
                    have c0 : wr.cell? ⟨Rl, k, none⟩ = some (.pointer (some ⟨L, 0, none⟩)) := by rw [A1.cell]; exact HC0.out
                    have x0 : wr.cell? ⟨L, 0, none⟩ = some (.slice (some ⟨L1, 0, none⟩) D D) := by rw [A2.cell]; rfl
                    have l0 := A1.lt
                    have l1 := A2.lt
                    have l2 := A3.lt
                    have j0 : (0 : Int) ≤ (j : Int) := Int.natCast_nonneg _
                    by_cases hjd : j < D
                    · have d2 : wr.cell? ⟨L1, j * 4 + 2, none⟩ = some .nilIface := by rw [A3.cell]; exact zd_get D j 2 hjd (by omega)
                      have j1 : (j : Int) < (D : Int) := by omega
                      clear A1 A2 A3
                      go_wp2_with fail
                      go_roundw
                      case rel => exact ⟨j + 1, by omega, by go_num, HB2⟩
                      case measure => simp [intOf]; omega
                    · have e : j = D := by omega
                      subst e
                      clear A1 A2 A3
                      go_wp2_with fail
                      go_roundw
                      case rel => exact ⟨k + 1, _, _, _, by omega, by go_num, rfl, rfl, rfl, HFS, HB3⟩
                      case measure => simp [intOf]; omega
                | false =>
                  by_cases ht0 : t = 0
                  · have HT0 := Lib.hid ht0
                    have t1 : (t != 0) = false := by simp [ht0]
                    clear ht0
                    go_wp2_with fail
                    refine (HKO.out _).mono ?_
                    rintro e w' ⟨rfl, rfl⟩
                    go_wp2_with fail
                    refine (HU.out _).mono ?_
                    rintro e w' ⟨rfl, rfl⟩
                    have HFS := Lib.hid (show FS zs ts (k + 1) f0 false true from FS.zero HFS0.out HK5.out HU1.out (by rw [← HTT.out]; exact HT0.out.symm) (by rw [← HKK.out, HKV.out]; simp))
                    have x0 : wr.cell? ⟨L, 0, none⟩ = some (.slice (some ⟨L1, 0, none⟩) D D) := by rw [HAL.out.cell]; rfl
                    clear HKK HKV
                    go_wp2_with fail
                    go_quiet (fail)
                    obtain ⟨wq, hwq⟩ : ∃ W, W = wr.drewN nq := ⟨_, rfl⟩
                    have HBQ := Lib.hid (show Below Wz.heap.size Wz wq from by rw [hwq]; exact below_drewN HB.out _)
                    rw [← hwq]
                    clear hwq x0 HB HCLr HAL c0' cz clt
                    go_wp2_with fail
                    go_loopw [27] (fun i w2 => DL D wq i w2) (fun i _ => D - (intOf i).toNat)
                    case atStart => exact ⟨0, Nat.zero_le _, rfl, Lib.hid (Below.refl _ _)⟩
                    case round =>
                      obtain ⟨j, hj, rfl, HB2⟩ := hrel
                      have HB3 := Lib.hid (show Below Wz.heap.size Wz wr from HBQ.out.trans (HB2.out.mono HBQ.out.size))
                      have A1 := HCL.out.below HB3.out HCL.out.lt
                      have A2 := HALz.out.below HB3.out HALz.out.lt
                      have A3 := HADz.out.below HB3.out HADz.out.lt
                      have c0 : wr.cell? ⟨Rl, k, none⟩ = some (.pointer (some ⟨L, 0, none⟩)) := by rw [A1.cell]; exact HC0.out
                      have x0 : wr.cell? ⟨L, 0, none⟩ = some (.slice (some ⟨L1, 0, none⟩) D D) := by rw [A2.cell]; rfl
                      have l0 := A1.lt
                      have l1 := A2.lt
                      have l2 := A3.lt
                      have j0 : (0 : Int) ≤ (j : Int) := Int.natCast_nonneg _
                      by_cases hjd : j < D
                      · have d2 : wr.cell? ⟨L1, j * 4 + 2, none⟩ = some .nilIface := by rw [A3.cell]; exact zd_get D j 2 hjd (by omega)
                        have j1 : (j : Int) < (D : Int) := by omega
                        clear A1 A2 A3
                        go_wp2_with fail
                        go_roundw
                        case rel => exact ⟨j + 1, by omega, by go_num, HB2⟩
                        case measure => simp [intOf]; omega
                      · have e : j = D := by omega
                        subst e
                        clear A1 A2 A3
                        go_wp2_with fail
                        go_roundw
                        case rel => exact ⟨k + 1, _, _, _, by omega, by go_num, rfl, rfl, rfl, HFS, HB3⟩
                        case measure => simp [intOf]; omega
                  · have HT0 := Lib.hid ht0
                    have t1 : (t != 0) = true := by simp [ht0]
                    clear ht0
                    go_wp2_with fail
                    refine (HKO.out _).mono ?_
                    rintro e w' ⟨rfl, rfl⟩
                    go_wp2_with fail
                    refine (HU.out _).mono ?_
                    rintro e w' ⟨rfl, rfl⟩
                    have HFS := Lib.hid (show FS zs ts (k + 1) t true true from FS.take HFS0.out HK5.out HU1.out HTT.out (by simp [HT0.out]) (by rw [← HKK.out, HKV.out]; simp))
                    have x0 : wr.cell? ⟨L, 0, none⟩ = some (.slice (some ⟨L1, 0, none⟩) D D) := by rw [HAL.out.cell]; rfl
                    clear HKK HKV
                    go_wp2_with fail
                    go_quiet (fail)
                    obtain ⟨wq, hwq⟩ : ∃ W, W = wr.drewN nq := ⟨_, rfl⟩
                    have HBQ := Lib.hid (show Below Wz.heap.size Wz wq from by rw [hwq]; exact below_drewN HB.out _)
                    rw [← hwq]
                    clear hwq x0 HB HCLr HAL c0' cz clt
                    go_wp2_with fail
                    go_loopw [27] (fun i w2 => DL D wq i w2) (fun i _ => D - (intOf i).toNat)
                    case atStart => exact ⟨0, Nat.zero_le _, rfl, Lib.hid (Below.refl _ _)⟩
                    case round =>
                      obtain ⟨j, hj, rfl, HB2⟩ := hrel
                      have HB3 := Lib.hid (show Below Wz.heap.size Wz wr from HBQ.out.trans (HB2.out.mono HBQ.out.size))
                      have A1 := HCL.out.below HB3.out HCL.out.lt
                      have A2 := HALz.out.below HB3.out HALz.out.lt
                      have A3 := HADz.out.below HB3.out HADz.out.lt
                      have c0 : wr.cell? ⟨Rl, k, none⟩ = some (.pointer (some ⟨L, 0, none⟩)) := by rw [A1.cell]; exact HC0.out
                      have x0 : wr.cell? ⟨L, 0, none⟩ = some (.slice (some ⟨L1, 0, none⟩) D D) := by rw [A2.cell]; rfl
                      have l0 := A1.lt
                      have l1 := A2.lt
                      have l2 := A3.lt
                      have j0 : (0 : Int) ≤ (j : Int) := Int.natCast_nonneg _
                      by_cases hjd : j < D
                      · have d2 : wr.cell? ⟨L1, j * 4 + 2, none⟩ = some .nilIface := by rw [A3.cell]; exact zd_get D j 2 hjd (by omega)
                        have j1 : (j : Int) < (D : Int) := by omega
                        clear A1 A2 A3
                        go_wp2_with fail
                        go_roundw
                        case rel => exact ⟨j + 1, by omega, by go_num, HB2⟩
                        case measure => simp [intOf]; omega
                      · have e : j = D := by omega
                        subst e
                        clear A1 A2 A3
                        go_wp2_with fail
                        go_roundw
                        case rel => exact ⟨k + 1, _, _, _, by omega, by go_num, rfl, rfl, rfl, HFS, HB3⟩
                        case measure => simp [intOf]; omega
        · have e : k = len0 := by omega
          have HXr := HX7.out.below HB.out HX7.out.lt
          have HPr := Lib.hid (HP7.out.below HB.out)
          obtain ⟨hf1, hf2, hf3⟩ := HFS0.out
          rw [e] at hf1 hf3
          rw [← hf1, ← hf3] at HXr
          have x0 : wr.cell? ⟨x, 0, none⟩ = some (.int .i32 f0) := by rw [HXr.cell]; rfl
          have x3 : wr.cell? ⟨x, 3, none⟩ = some (.bool a0') := by rw [HXr.cell]; rfl
          have BWr := Lib.hid (show Below w.heap.size w wr from BW.out.trans (HB.out.mono BW.out.size))
          have ne1 : (f0 != f0) = false := by simp
          have ne2 : (a0' != a0') = false := by simp
          have k1 : ¬ ((k : Int) < (len0 : Int)) := by omega
          have HFU := Lib.hid (firstUsing x f0 wr x0)
          have HHA := Lib.hid (hasAwait x a0' wr x3)
          clear hf1 hf2 hf3 HXr HB HFS0 e x0 x3
          go_wp2_with fail
          refine HFU.out.mono ?_
          rintro e w' ⟨rfl, rfl⟩
          go_wp2_with fail
          refine HHA.out.mono ?_
          rintro e w' ⟨rfl, rfl⟩
          go_wp2_with fail
          refine (scount B0 b 0 false _ _ _ HPr.out).mono ?_
          rintro e w' ⟨rfl, rfl⟩
          go_wp2_with fail
          go_ret
          exact ⟨rfl, BWr.out⟩
  · obtain ⟨b, hb⟩ := bytes_any a0 a1 len0 len1 cap0 cap1 a2 a3 a4 a5 a6 w (len_ints w0).1 (len_ints w1).1
    have m0 := (len_ints w0).1
    have m1 := (len_ints w1).1
    unfold maxLen at m0 m1
    have HB := Lib.hid hb
    clear hb w0 w1
    by_cases h0 : len0 ≤ 4096
    · have h1 : 4096 < len1 := by omega
      go_enter Tryd.func4, Tryd.ntmps4
      go_wp2_with fail
      refine HB.out.mono ?_
      rintro e w' ⟨rfl, rfl⟩
      cases b <;> (go_wp2_with fail; go_ret; exact ⟨rfl, Below.refl _ _⟩)
    · have h1 : 4096 < len0 := by omega
      go_enter Tryd.func4, Tryd.ntmps4
      go_wp2_with fail
      refine HB.out.mono ?_
      rintro e w' ⟨rfl, rfl⟩
      cases b <;> (go_wp2_with fail; go_ret; exact ⟨rfl, Below.refl _ _⟩)
end Go.Proofs.YtjnffbnipjkibaaDoor.fnScanStmtsExact
