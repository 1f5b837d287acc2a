/- Proved here: what scanTo leaves in a fresh tracker. -/
import Derived.Test.YtkkkamniccgblaaFmtMFE
import Derived.WalkKit
import Derived.WalkSpells
import Derived.WalkLawsBesides
import Derived.Lib.Hide
import Derived.Lib.SliceRun
import Derived.Deep.RegionWith
import Derived.BigRegion
import Derived.OwnWalk
import Derived.Laws.OwnMore
import Derived.Deep.Cut
import Derived.Carry
import Derived.IntWalk
namespace Go.Proofs.YtkkkamniccgblaaFmt
open Go.RowKit
set_option linter.unusedSimpArgs false
set_option linter.unusedVariables false

namespace MF
/-- What scanTo leaves. -/
structure SC (w : World) (p : Nat) (s a b : ByteArray) (w' : World) : Prop where
  k : KT p w w'
  t : ∃ (off ls : Nat) (line : Int), TK w' p s a b off line ls 0 true false ∧ off ≤ s.size ∧ ls ≤ off
def SCP (w : World) (p : Nat) (s a b : ByteArray) (e : Ending) (w' : World) : Prop := e = .returned (.tuple #[]) ∧ SC w p s a b w'
/-- The forward loop's state: place i, the tracker's line and line start. -/
def FL (w : World) (p o : Nat) (s a b : ByteArray) (v : Value) (wr : World) : Prop := ∃ (i ls : Nat) (line : Int), v = il i ∧ i < o ∧ ls ≤ i ∧ TK wr p s a b 0 line ls 0 true false ∧ KT p w wr
set_option maxRecDepth 100000 in
set_option maxHeartbeats 4000000 in
theorem scanTo (p o : Nat) (s a b : ByteArray) (w : World) (ho : o ≤ s.size) (hs : s.size ≤ 1048576) (hT : Lib.Utf8Tabs 0 1 w) (hp0 : p ≠ 0) (hp1 : p ≠ 1) (h : TK w p s a b 0 0 0 0 true false) :
    Calls Tryf.prog 53 #[.pointer (some ⟨p, 67, none⟩), il o] w (SCP w p s a b) := by
  have lp : p < w.heap.size := World.block_lt_of_cell? _ _ h.c0
  by_cases ho0 : o = 0
  · subst ho0
    have HE : SC w p s a b w := ⟨KT.refl _ _, 0, 0, 0, h, Nat.zero_le _, Nat.le_refl _⟩
    have HH := Lib.hid HE
    have c0 := h.c0
    have c3 := h.of
    clear HE h hT
    go_enter Tryf.func53, Tryf.ntmps53
    go_wp2_with fail
    go_end0
    exact ⟨rfl, HH.out⟩
  · have HT := Lib.hid hT
    have HTK := Lib.hid h
    have c0 := h.c0
    have c3 := h.of
    clear h hT
    have hpos : 0 < o := by omega
    have hdec0 : decide (0 < o) = true := decide_eq_true hpos
    go_enter Tryf.func53, Tryf.ntmps53
    go_wp2_with fail
    go_loopw [5] (fun v wr => FL w p o s a b v wr) (fun v _ => o - (intOf v).toNat)
    case atStart => exact ⟨0, 0, 0, rfl, by omega, Nat.le_refl _, HTK.out, KT.refl _ _⟩
    case round =>
      obtain ⟨i, ls, line, rfl, hi, hls, hk, hkt⟩ := hrel
      clear c0 c3 HTK
      have hj : i < s.size := by omega
      obtain ⟨d1, d2, d3, d4⟩ := decode_bd s i hj
      have HD := Tryf.utf8_DecodeRuneInString (s.extract i s.size) wr (tabsX (by simp [Ne.symm hp0]) (by simp [Ne.symm hp1]) HT.out hkt.k)
      rw [decodeGo_at s i hj] at HD
      obtain ⟨r, wd, hdec⟩ : ∃ r wd, Utf8.decode s i = (r, wd) := ⟨_, _, rfl⟩
      rw [hdec] at HD d1 d2 d3 d4
      simp only at HD d1 d2 d3 d4
      have HDh := Lib.hid HD
      have HK := Lib.hid hk
      have HKT := Lib.hid hkt
      obtain ⟨u, hu⟩ : ∃ u : Nat, u = i + wd := ⟨_, rfl⟩
      have EU := Lib.hid (show (i : Int) + wd = (u : Int) by omega)
      have ui : i < u := by omega
      have us : u ≤ s.size := by omega
      clear HD hk hkt hdec
      by_cases r10 : r = 10
      · subst r10
        go_wp2_with fail
        go_at_call 55
        refine HDh.out.mono ?_
        rintro e wq ⟨rfl, hbq⟩
        have q := HK.out.below hbq
        have k := HKT.out.below lp hbq
        have HKq := Lib.hid q
        have HTq := Lib.hid k
        have N1 := Lib.hid (((q.set_hs true).set_he false).set_ls ((i : Int) + wd))
        have K1 := Lib.hid (((k.set 74 (by omega) (.bool true)).set 75 (by omega) (.bool false)).set 72 (by omega) (il ((i : Int) + wd)))
        have N2 := Lib.hid (N1.out.set_li (wrap32 (line + 1)))
        have K2 := Lib.hid (K1.out.set 71 (by omega) (il (wrap32 (line + 1))))
        have N1e := Lib.hid (N1.out.set_of ((i : Int) + wd))
        have K1e := Lib.hid (K1.out.set 70 (by omega) (il ((i : Int) + wd)))
        have N2e := Lib.hid (N2.out.set_of ((i : Int) + wd))
        have K2e := Lib.hid (K2.out.set 70 (by omega) (il ((i : Int) + wd)))
        have N3e := Lib.hid (q.set_of ((i : Int) + wd))
        have K3e := Lib.hid (k.set 70 (by omega) (il ((i : Int) + wd)))
        have a74 := q.hs
        have a75 := q.he
        have a72 := q.ls
        have a71 := q.li
        have a70 := q.of
        have af := q.fr
        clear hbq HDh q k
        go_wp2_with fail
        all_goals first
          | (refine bodyPost_ret (results_none rfl _ _ _) rfl ?_
             first
               | exact ⟨rfl, ⟨K1e.out, u, u, _, by rw [← EU.out]; exact N1e.out, by omega, by omega⟩⟩
               | exact ⟨rfl, ⟨K2e.out, u, u, _, by rw [← EU.out]; exact N2e.out, by omega, by omega⟩⟩
               | exact ⟨rfl, ⟨K3e.out, u, ls, _, by rw [← EU.out]; exact N3e.out, by omega, by omega⟩⟩
               | (have hh : (i : Int) + wd = wd := by assumption
                  have n := N2e.out
                  have k := K2e.out
                  rw [hh] at n k
                  have e : (wd : Int) = u := by have := EU.out; omega
                  exact ⟨rfl, ⟨k, u, u, _, by rw [← e]; exact n, by omega, by omega⟩⟩))
          | (go_roundw
             (case rel => first
               | exact ⟨u, u, _, by rw [← EU.out], by omega, by omega, by rw [← EU.out]; exact N1.out, K1.out⟩
               | exact ⟨u, u, _, by rw [← EU.out], by omega, by omega, by rw [← EU.out]; exact N2.out, K2.out⟩
               | exact ⟨u, ls, _, by rw [← EU.out], by omega, by omega, HKq.out, HTq.out⟩
               | (have hh : (i : Int) + wd = wd := by assumption
                  have n := N2.out
                  have k := K2.out
                  rw [hh] at n k
                  have e : (wd : Int) = u := by have := EU.out; omega
                  exact ⟨u, u, _, by rw [← e], by omega, by omega, by rw [← e]; exact n, k⟩))
             (case measure => simp [intOf] <;> omega))
      by_cases r13 : r = 13
      · subst r13
        go_wp2_with fail
        go_at_call 55
        refine HDh.out.mono ?_
        rintro e wq ⟨rfl, hbq⟩
        have q := HK.out.below hbq
        have k := HKT.out.below lp hbq
        have HKq := Lib.hid q
        have HTq := Lib.hid k
        have N1 := Lib.hid (((q.set_hs true).set_he false).set_ls ((i : Int) + wd))
        have K1 := Lib.hid (((k.set 74 (by omega) (.bool true)).set 75 (by omega) (.bool false)).set 72 (by omega) (il ((i : Int) + wd)))
        have N2 := Lib.hid (N1.out.set_li (wrap32 (line + 1)))
        have K2 := Lib.hid (K1.out.set 71 (by omega) (il (wrap32 (line + 1))))
        have N1e := Lib.hid (N1.out.set_of ((i : Int) + wd))
        have K1e := Lib.hid (K1.out.set 70 (by omega) (il ((i : Int) + wd)))
        have N2e := Lib.hid (N2.out.set_of ((i : Int) + wd))
        have K2e := Lib.hid (K2.out.set 70 (by omega) (il ((i : Int) + wd)))
        have N3e := Lib.hid (q.set_of ((i : Int) + wd))
        have K3e := Lib.hid (k.set 70 (by omega) (il ((i : Int) + wd)))
        have a74 := q.hs
        have a75 := q.he
        have a72 := q.ls
        have a71 := q.li
        have a70 := q.of
        have af := q.fr
        clear hbq HDh q k
        go_wp2_with fail
        all_goals first
          | (refine bodyPost_ret (results_none rfl _ _ _) rfl ?_
             first
               | exact ⟨rfl, ⟨K1e.out, u, u, _, by rw [← EU.out]; exact N1e.out, by omega, by omega⟩⟩
               | exact ⟨rfl, ⟨K2e.out, u, u, _, by rw [← EU.out]; exact N2e.out, by omega, by omega⟩⟩
               | exact ⟨rfl, ⟨K3e.out, u, ls, _, by rw [← EU.out]; exact N3e.out, by omega, by omega⟩⟩
               | (have hh : (i : Int) + wd = wd := by assumption
                  have n := N2e.out
                  have k := K2e.out
                  rw [hh] at n k
                  have e : (wd : Int) = u := by have := EU.out; omega
                  exact ⟨rfl, ⟨k, u, u, _, by rw [← e]; exact n, by omega, by omega⟩⟩))
          | (go_roundw
             (case rel => first
               | exact ⟨u, u, _, by rw [← EU.out], by omega, by omega, by rw [← EU.out]; exact N1.out, K1.out⟩
               | exact ⟨u, u, _, by rw [← EU.out], by omega, by omega, by rw [← EU.out]; exact N2.out, K2.out⟩
               | exact ⟨u, ls, _, by rw [← EU.out], by omega, by omega, HKq.out, HTq.out⟩
               | (have hh : (i : Int) + wd = wd := by assumption
                  have n := N2.out
                  have k := K2.out
                  rw [hh] at n k
                  have e : (wd : Int) = u := by have := EU.out; omega
                  exact ⟨u, u, _, by rw [← e], by omega, by omega, by rw [← e]; exact n, k⟩))
             (case measure => simp [intOf] <;> omega))
      by_cases r8232 : r = 8232
      · subst r8232
        go_wp2_with fail
        go_at_call 55
        refine HDh.out.mono ?_
        rintro e wq ⟨rfl, hbq⟩
        have q := HK.out.below hbq
        have k := HKT.out.below lp hbq
        have HKq := Lib.hid q
        have HTq := Lib.hid k
        have N1 := Lib.hid (((q.set_hs true).set_he false).set_ls ((i : Int) + wd))
        have K1 := Lib.hid (((k.set 74 (by omega) (.bool true)).set 75 (by omega) (.bool false)).set 72 (by omega) (il ((i : Int) + wd)))
        have N2 := Lib.hid (N1.out.set_li (wrap32 (line + 1)))
        have K2 := Lib.hid (K1.out.set 71 (by omega) (il (wrap32 (line + 1))))
        have N1e := Lib.hid (N1.out.set_of ((i : Int) + wd))
        have K1e := Lib.hid (K1.out.set 70 (by omega) (il ((i : Int) + wd)))
        have N2e := Lib.hid (N2.out.set_of ((i : Int) + wd))
        have K2e := Lib.hid (K2.out.set 70 (by omega) (il ((i : Int) + wd)))
        have N3e := Lib.hid (q.set_of ((i : Int) + wd))
        have K3e := Lib.hid (k.set 70 (by omega) (il ((i : Int) + wd)))
        have a74 := q.hs
        have a75 := q.he
        have a72 := q.ls
        have a71 := q.li
        have a70 := q.of
        have af := q.fr
        clear hbq HDh q k
        go_wp2_with fail
        all_goals first
          | (refine bodyPost_ret (results_none rfl _ _ _) rfl ?_
             first
               | exact ⟨rfl, ⟨K1e.out, u, u, _, by rw [← EU.out]; exact N1e.out, by omega, by omega⟩⟩
               | exact ⟨rfl, ⟨K2e.out, u, u, _, by rw [← EU.out]; exact N2e.out, by omega, by omega⟩⟩
               | exact ⟨rfl, ⟨K3e.out, u, ls, _, by rw [← EU.out]; exact N3e.out, by omega, by omega⟩⟩
               | (have hh : (i : Int) + wd = wd := by assumption
                  have n := N2e.out
                  have k := K2e.out
                  rw [hh] at n k
                  have e : (wd : Int) = u := by have := EU.out; omega
                  exact ⟨rfl, ⟨k, u, u, _, by rw [← e]; exact n, by omega, by omega⟩⟩))
          | (go_roundw
             (case rel => first
               | exact ⟨u, u, _, by rw [← EU.out], by omega, by omega, by rw [← EU.out]; exact N1.out, K1.out⟩
               | exact ⟨u, u, _, by rw [← EU.out], by omega, by omega, by rw [← EU.out]; exact N2.out, K2.out⟩
               | exact ⟨u, ls, _, by rw [← EU.out], by omega, by omega, HKq.out, HTq.out⟩
               | (have hh : (i : Int) + wd = wd := by assumption
                  have n := N2.out
                  have k := K2.out
                  rw [hh] at n k
                  have e : (wd : Int) = u := by have := EU.out; omega
                  exact ⟨u, u, _, by rw [← e], by omega, by omega, by rw [← e]; exact n, k⟩))
             (case measure => simp [intOf] <;> omega))
      by_cases r8233 : r = 8233
      · subst r8233
        go_wp2_with fail
        go_at_call 55
        refine HDh.out.mono ?_
        rintro e wq ⟨rfl, hbq⟩
        have q := HK.out.below hbq
        have k := HKT.out.below lp hbq
        have HKq := Lib.hid q
        have HTq := Lib.hid k
        have N1 := Lib.hid (((q.set_hs true).set_he false).set_ls ((i : Int) + wd))
        have K1 := Lib.hid (((k.set 74 (by omega) (.bool true)).set 75 (by omega) (.bool false)).set 72 (by omega) (il ((i : Int) + wd)))
        have N2 := Lib.hid (N1.out.set_li (wrap32 (line + 1)))
        have K2 := Lib.hid (K1.out.set 71 (by omega) (il (wrap32 (line + 1))))
        have N1e := Lib.hid (N1.out.set_of ((i : Int) + wd))
        have K1e := Lib.hid (K1.out.set 70 (by omega) (il ((i : Int) + wd)))
        have N2e := Lib.hid (N2.out.set_of ((i : Int) + wd))
        have K2e := Lib.hid (K2.out.set 70 (by omega) (il ((i : Int) + wd)))
        have N3e := Lib.hid (q.set_of ((i : Int) + wd))
        have K3e := Lib.hid (k.set 70 (by omega) (il ((i : Int) + wd)))
        have a74 := q.hs
        have a75 := q.he
        have a72 := q.ls
        have a71 := q.li
        have a70 := q.of
        have af := q.fr
        clear hbq HDh q k
        go_wp2_with fail
        all_goals first
          | (refine bodyPost_ret (results_none rfl _ _ _) rfl ?_
             first
               | exact ⟨rfl, ⟨K1e.out, u, u, _, by rw [← EU.out]; exact N1e.out, by omega, by omega⟩⟩
               | exact ⟨rfl, ⟨K2e.out, u, u, _, by rw [← EU.out]; exact N2e.out, by omega, by omega⟩⟩
               | exact ⟨rfl, ⟨K3e.out, u, ls, _, by rw [← EU.out]; exact N3e.out, by omega, by omega⟩⟩
               | (have hh : (i : Int) + wd = wd := by assumption
                  have n := N2e.out
                  have k := K2e.out
                  rw [hh] at n k
                  have e : (wd : Int) = u := by have := EU.out; omega
                  exact ⟨rfl, ⟨k, u, u, _, by rw [← e]; exact n, by omega, by omega⟩⟩))
          | (go_roundw
             (case rel => first
               | exact ⟨u, u, _, by rw [← EU.out], by omega, by omega, by rw [← EU.out]; exact N1.out, K1.out⟩
               | exact ⟨u, u, _, by rw [← EU.out], by omega, by omega, by rw [← EU.out]; exact N2.out, K2.out⟩
               | exact ⟨u, ls, _, by rw [← EU.out], by omega, by omega, HKq.out, HTq.out⟩
               | (have hh : (i : Int) + wd = wd := by assumption
                  have n := N2.out
                  have k := K2.out
                  rw [hh] at n k
                  have e : (wd : Int) = u := by have := EU.out; omega
                  exact ⟨u, u, _, by rw [← e], by omega, by omega, by rw [← e]; exact n, k⟩))
             (case measure => simp [intOf] <;> omega))
      · have x1 : ((r : Int) == 10) = false := by simp; omega
        have x2 : ((r : Int) == 13) = false := by simp; omega
        have x3 : ((r : Int) == 8232) = false := by simp; omega
        have x4 : ((r : Int) == 8233) = false := by simp; omega
        go_wp2_with fail
        go_at_call 55
        refine HDh.out.mono ?_
        rintro e wq ⟨rfl, hbq⟩
        have q := HK.out.below hbq
        have k := HKT.out.below lp hbq
        have HKq := Lib.hid q
        have HTq := Lib.hid k
        have N1 := Lib.hid (((q.set_hs true).set_he false).set_ls ((i : Int) + wd))
        have K1 := Lib.hid (((k.set 74 (by omega) (.bool true)).set 75 (by omega) (.bool false)).set 72 (by omega) (il ((i : Int) + wd)))
        have N2 := Lib.hid (N1.out.set_li (wrap32 (line + 1)))
        have K2 := Lib.hid (K1.out.set 71 (by omega) (il (wrap32 (line + 1))))
        have N1e := Lib.hid (N1.out.set_of ((i : Int) + wd))
        have K1e := Lib.hid (K1.out.set 70 (by omega) (il ((i : Int) + wd)))
        have N2e := Lib.hid (N2.out.set_of ((i : Int) + wd))
        have K2e := Lib.hid (K2.out.set 70 (by omega) (il ((i : Int) + wd)))
        have N3e := Lib.hid (q.set_of ((i : Int) + wd))
        have K3e := Lib.hid (k.set 70 (by omega) (il ((i : Int) + wd)))
        have a74 := q.hs
        have a75 := q.he
        have a72 := q.ls
        have a71 := q.li
        have a70 := q.of
        have af := q.fr
        clear hbq HDh q k
        go_wp2_with fail
        all_goals first
          | (refine bodyPost_ret (results_none rfl _ _ _) rfl ?_
             first
               | exact ⟨rfl, ⟨K1e.out, u, u, _, by rw [← EU.out]; exact N1e.out, by omega, by omega⟩⟩
               | exact ⟨rfl, ⟨K2e.out, u, u, _, by rw [← EU.out]; exact N2e.out, by omega, by omega⟩⟩
               | exact ⟨rfl, ⟨K3e.out, u, ls, _, by rw [← EU.out]; exact N3e.out, by omega, by omega⟩⟩
               | (have hh : (i : Int) + wd = wd := by assumption
                  have n := N2e.out
                  have k := K2e.out
                  rw [hh] at n k
                  have e : (wd : Int) = u := by have := EU.out; omega
                  exact ⟨rfl, ⟨k, u, u, _, by rw [← e]; exact n, by omega, by omega⟩⟩))
          | (go_roundw
             (case rel => first
               | exact ⟨u, u, _, by rw [← EU.out], by omega, by omega, by rw [← EU.out]; exact N1.out, K1.out⟩
               | exact ⟨u, u, _, by rw [← EU.out], by omega, by omega, by rw [← EU.out]; exact N2.out, K2.out⟩
               | exact ⟨u, ls, _, by rw [← EU.out], by omega, by omega, HKq.out, HTq.out⟩
               | (have hh : (i : Int) + wd = wd := by assumption
                  have n := N2.out
                  have k := K2.out
                  rw [hh] at n k
                  have e : (wd : Int) = u := by have := EU.out; omega
                  exact ⟨u, u, _, by rw [← e], by omega, by omega, by rw [← e]; exact n, k⟩))
             (case measure => simp [intOf] <;> omega))
end MF
end Go.Proofs.YtkkkamniccgblaaFmt
