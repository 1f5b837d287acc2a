/- Proved here: what the tracker's location is. -/
import Derived.Test.YtkkkamniccgblaaFmtMFF
import Derived.WalkKit
import Derived.WalkSpells
import Derived.WalkLawsBesides
import Derived.Lib.Hide
import Derived.Lib.SliceRun
import Derived.Deep.RegionWith
import Derived.BigRegion
import Derived.BigQuiet
import Derived.OwnWalk
import Derived.Laws.OwnMore
import Derived.Deep.Cut
import Derived.Carry
import Derived.IntWalk
namespace Go.Proofs.YtkkkamniccgblaaFmt
open Go.RowKit
set_option linter.unusedSimpArgs false
set_option linter.unusedVariables false

namespace MF
def CLP (w : World) (p : Nat) (s a b : ByteArray) (e : Ending) (w' : World) : Prop :=
  (∃ (n c : Int) (ls le : Nat), e = .returned (.tuple #[.int .i64 n, .int .i64 c, .int .i64 ls, .int .i64 le]) ∧ ls ≤ le ∧ le ≤ s.size) ∧ KT p w w' ∧ w'.cell? ⟨p, 67, none⟩ = some (.string s) ∧ w'.cell? ⟨p, 68, none⟩ = some (.string a) ∧ w'.cell? ⟨p, 69, none⟩ = some (.string b)
/-- The second loop's state. -/
def EL (w : World) (p off : Nat) (s a b : ByteArray) (line ls : Int) (v13 : Value) (wr : World) : Prop := ∃ i : Nat, v13 = il i ∧ off ≤ i ∧ i ≤ s.size ∧ TK wr p s a b off line ls 0 true false ∧ KT p w wr
set_option maxRecDepth 100000 in
set_option maxHeartbeats 4000000 in
theorem compute (p o : Nat) (s a b : ByteArray) (w : World) (ho : o ≤ s.size) (hs : s.size ≤ 1048576) (hT : Lib.Utf8Tabs 0 1 w) (hp0 : p ≠ 0) (hp1 : p ≠ 1) (h : TK w p s a b 0 0 0 0 true false) :
    Calls Tryf.prog 44 #[.pointer (some ⟨p, 67, none⟩), .int .i64 o] w (CLP w p s a b) := by
  have lp : p < w.heap.size := World.block_lt_of_cell? _ _ h.c0
  have HS := Lib.hid (scanTo p o s a b w ho hs hT hp0 hp1 h)
  have HT := Lib.hid hT
  clear h hT
  go_enter Tryf.func44, Tryf.ntmps44
  go_wp2_with fail
  go_at_call 53
  refine HS.out.mono ?_
  rintro e wq ⟨rfl, hk, off, ls, line, tk, h1, h2⟩
  have HK := Lib.hid hk
  have HTK := Lib.hid tk
  have c67 := tk.c0
  have c70 := tk.of
  have c71 := tk.li
  have c72 := tk.ls
  have c73 := tk.le
  have c74 := tk.hs
  have c75 := tk.he
  have af := tk.fr
  clear tk hk HS
  go_wp2_with fail
  go_loopw [13] (fun v wr => EL w p off s a b line ls v wr) (fun v _ => s.size - (intOf v).toNat)
  case atStart => exact ⟨off, rfl, Nat.le_refl _, h1, HTK.out, HK.out⟩
  case round =>
    obtain ⟨i, rfl, hi1, hi2, hk, hkt⟩ := hrel
    clear c67 c70 c71 c72 c73 c74 c75 af HTK HK
    have HK := Lib.hid hk
    have HKT := Lib.hid hkt
    by_cases hi : i < s.size
    · obtain ⟨d1, d2, d3, d4⟩ := decode_bd s i hi
      have HD := Tryf.utf8_DecodeRuneInString (s.extract i s.size) wr (tabsX (by simp [Ne.symm hp0]) (by simp [Ne.symm hp1]) HT.out hkt.k)
      rw [decodeGo_at s i hi] at HD
      obtain ⟨r, wd, hdec⟩ : ∃ r wd, Utf8.decode s i = (r, wd) := ⟨_, _, rfl⟩
      rw [hdec] at HD d1 d2 d3 d4
      simp only at HD d1 d2 d3 d4
      have HDh := Lib.hid HD
      clear HD hk hkt hdec
      by_cases r10 : r = 10
      · subst r10
        go_wp2_with fail
        go_at_call 55
        refine HDh.out.mono ?_
        rintro e wv ⟨rfl, hbq⟩
        have q := HK.out.below hbq
        have k := HKT.out.below lp hbq
        have HKq := Lib.hid q
        have HTq := Lib.hid k
        have a74 := q.hs
        have a75 := q.he
        have a72 := q.ls
        have a71 := q.li
        have a70 := q.of
        have a73 := q.le
        have af := q.fr
        clear hbq HDh
        go_wp2_with fail
        change Code.wp _ _ _ _ ((wv.setCell ⟨p, 75, none⟩ (.bool true)).setCell ⟨p, 73, none⟩ (il i))
        have TX := (q.set_he true).set_le i
        have KXx := (k.set 75 (by omega) (.bool true)).set 73 (by omega) (il i)
        generalize ((wv.setCell ⟨p, 75, none⟩ (.bool true)).setCell ⟨p, 73, none⟩ (il i)) = X at TX KXx ⊢
        have TXh := Lib.hid TX
        have KXh := Lib.hid KXx
        have c71 := TX.li
        have c72 := TX.ls
        have c73 := TX.le
        have el : IntKind.i64.wrap (ls : Int) = ls := IntWalk.i64_in _ (by omega)
        have ei : IntKind.i64.wrap (i : Int) = i := IntWalk.i64_in _ (by omega)
        clear TX KXx
        go_quiet (fail)
        go_wp2_with fail
        refine bodyPost_ret (v := .tuple #[.int .i64 (wrap64 line), .int .i64 ((o : Int) - ls), .int .i64 ls, .int .i64 i]) (by simp [results, Tryf.results44, go_sem]) rfl ?_
        exact ⟨⟨_, _, ls, i, rfl, by omega, by omega⟩, KXh.out.drewN _, TXh.out.c0, TXh.out.c1, TXh.out.c2⟩
      by_cases r13 : r = 13
      · subst r13
        go_wp2_with fail
        go_at_call 55
        refine HDh.out.mono ?_
        rintro e wv ⟨rfl, hbq⟩
        have q := HK.out.below hbq
        have k := HKT.out.below lp hbq
        have HKq := Lib.hid q
        have HTq := Lib.hid k
        have a74 := q.hs
        have a75 := q.he
        have a72 := q.ls
        have a71 := q.li
        have a70 := q.of
        have a73 := q.le
        have af := q.fr
        clear hbq HDh
        go_wp2_with fail
        change Code.wp _ _ _ _ ((wv.setCell ⟨p, 75, none⟩ (.bool true)).setCell ⟨p, 73, none⟩ (il i))
        have TX := (q.set_he true).set_le i
        have KXx := (k.set 75 (by omega) (.bool true)).set 73 (by omega) (il i)
        generalize ((wv.setCell ⟨p, 75, none⟩ (.bool true)).setCell ⟨p, 73, none⟩ (il i)) = X at TX KXx ⊢
        have TXh := Lib.hid TX
        have KXh := Lib.hid KXx
        have c71 := TX.li
        have c72 := TX.ls
        have c73 := TX.le
        have el : IntKind.i64.wrap (ls : Int) = ls := IntWalk.i64_in _ (by omega)
        have ei : IntKind.i64.wrap (i : Int) = i := IntWalk.i64_in _ (by omega)
        clear TX KXx
        go_quiet (fail)
        go_wp2_with fail
        refine bodyPost_ret (v := .tuple #[.int .i64 (wrap64 line), .int .i64 ((o : Int) - ls), .int .i64 ls, .int .i64 i]) (by simp [results, Tryf.results44, go_sem]) rfl ?_
        exact ⟨⟨_, _, ls, i, rfl, by omega, by omega⟩, KXh.out.drewN _, TXh.out.c0, TXh.out.c1, TXh.out.c2⟩
      by_cases r8232 : r = 8232
      · subst r8232
        go_wp2_with fail
        go_at_call 55
        refine HDh.out.mono ?_
        rintro e wv ⟨rfl, hbq⟩
        have q := HK.out.below hbq
        have k := HKT.out.below lp hbq
        have HKq := Lib.hid q
        have HTq := Lib.hid k
        have a74 := q.hs
        have a75 := q.he
        have a72 := q.ls
        have a71 := q.li
        have a70 := q.of
        have a73 := q.le
        have af := q.fr
        clear hbq HDh
        go_wp2_with fail
        change Code.wp _ _ _ _ ((wv.setCell ⟨p, 75, none⟩ (.bool true)).setCell ⟨p, 73, none⟩ (il i))
        have TX := (q.set_he true).set_le i
        have KXx := (k.set 75 (by omega) (.bool true)).set 73 (by omega) (il i)
        generalize ((wv.setCell ⟨p, 75, none⟩ (.bool true)).setCell ⟨p, 73, none⟩ (il i)) = X at TX KXx ⊢
        have TXh := Lib.hid TX
        have KXh := Lib.hid KXx
        have c71 := TX.li
        have c72 := TX.ls
        have c73 := TX.le
        have el : IntKind.i64.wrap (ls : Int) = ls := IntWalk.i64_in _ (by omega)
        have ei : IntKind.i64.wrap (i : Int) = i := IntWalk.i64_in _ (by omega)
        clear TX KXx
        go_quiet (fail)
        go_wp2_with fail
        refine bodyPost_ret (v := .tuple #[.int .i64 (wrap64 line), .int .i64 ((o : Int) - ls), .int .i64 ls, .int .i64 i]) (by simp [results, Tryf.results44, go_sem]) rfl ?_
        exact ⟨⟨_, _, ls, i, rfl, by omega, by omega⟩, KXh.out.drewN _, TXh.out.c0, TXh.out.c1, TXh.out.c2⟩
      by_cases r8233 : r = 8233
      · subst r8233
        go_wp2_with fail
        go_at_call 55
        refine HDh.out.mono ?_
        rintro e wv ⟨rfl, hbq⟩
        have q := HK.out.below hbq
        have k := HKT.out.below lp hbq
        have HKq := Lib.hid q
        have HTq := Lib.hid k
        have a74 := q.hs
        have a75 := q.he
        have a72 := q.ls
        have a71 := q.li
        have a70 := q.of
        have a73 := q.le
        have af := q.fr
        clear hbq HDh
        go_wp2_with fail
        change Code.wp _ _ _ _ ((wv.setCell ⟨p, 75, none⟩ (.bool true)).setCell ⟨p, 73, none⟩ (il i))
        have TX := (q.set_he true).set_le i
        have KXx := (k.set 75 (by omega) (.bool true)).set 73 (by omega) (il i)
        generalize ((wv.setCell ⟨p, 75, none⟩ (.bool true)).setCell ⟨p, 73, none⟩ (il i)) = X at TX KXx ⊢
        have TXh := Lib.hid TX
        have KXh := Lib.hid KXx
        have c71 := TX.li
        have c72 := TX.ls
        have c73 := TX.le
        have el : IntKind.i64.wrap (ls : Int) = ls := IntWalk.i64_in _ (by omega)
        have ei : IntKind.i64.wrap (i : Int) = i := IntWalk.i64_in _ (by omega)
        clear TX KXx
        go_quiet (fail)
        go_wp2_with fail
        refine bodyPost_ret (v := .tuple #[.int .i64 (wrap64 line), .int .i64 ((o : Int) - ls), .int .i64 ls, .int .i64 i]) (by simp [results, Tryf.results44, go_sem]) rfl ?_
        exact ⟨⟨_, _, ls, i, rfl, by omega, by omega⟩, KXh.out.drewN _, TXh.out.c0, TXh.out.c1, TXh.out.c2⟩
      · have x1 : ((r : Int) == 10) = false := by simp; omega
        have x2 : ((r : Int) == 13) = false := by simp; omega
        have x3 : ((r : Int) == 8232) = false := by simp; omega
        have x4 : ((r : Int) == 8233) = false := by simp; omega
        go_wp2_with fail
        go_at_call 55
        refine HDh.out.mono ?_
        rintro e wv ⟨rfl, hbq⟩
        have q := HK.out.below hbq
        have k := HKT.out.below lp hbq
        have HKq := Lib.hid q
        have HTq := Lib.hid k
        have a74 := q.hs
        have a75 := q.he
        have a72 := q.ls
        have a71 := q.li
        have a70 := q.of
        have a73 := q.le
        have af := q.fr
        clear hbq HDh
        go_wp2_with fail
        go_roundw
        case rel => exact ⟨i + wd, by congr 1, by omega, by omega, HKq.out, HTq.out⟩
        case measure => simp [intOf] <;> omega
    · obtain rfl : i = s.size := by omega
      have q := HK.out
      have k := HKT.out
      have a75 := q.he
      have a73 := q.le
      have af := q.fr
      clear hk hkt
      go_wp2_with fail
      change Code.wp _ _ _ _ ((wr.setCell ⟨p, 75, none⟩ (.bool true)).setCell ⟨p, 73, none⟩ (il s.size))
      have TX := (q.set_he true).set_le s.size
      have KXx := (k.set 75 (by omega) (.bool true)).set 73 (by omega) (il s.size)
      generalize ((wr.setCell ⟨p, 75, none⟩ (.bool true)).setCell ⟨p, 73, none⟩ (il s.size)) = X at TX KXx ⊢
      have TXh := Lib.hid TX
      have KXh := Lib.hid KXx
      have c71 := TX.li
      have c72 := TX.ls
      have c73 := TX.le
      have el : IntKind.i64.wrap (ls : Int) = ls := IntWalk.i64_in _ (by omega)
      have ei : IntKind.i64.wrap (s.size : Int) = s.size := IntWalk.i64_in _ (by omega)
      clear TX KXx
      go_quiet (fail)
      go_wp2_with fail
      refine bodyPost_ret (v := .tuple #[.int .i64 (wrap64 line), .int .i64 ((o : Int) - ls), .int .i64 ls, .int .i64 s.size]) (by simp [results, Tryf.results44, go_sem]) rfl ?_
      exact ⟨⟨_, _, ls, s.size, rfl, by omega, by omega⟩, KXh.out.drewN _, TXh.out.c0, TXh.out.c1, TXh.out.c2⟩
end MF
end Go.Proofs.YtkkkamniccgblaaFmt
