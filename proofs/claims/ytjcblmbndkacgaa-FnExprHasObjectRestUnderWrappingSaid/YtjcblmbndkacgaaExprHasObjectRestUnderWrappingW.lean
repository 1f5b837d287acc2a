/- Proved here: the walk of the law FnExprHasObjectRestUnderWrapping, for every input. -/
import Derived.Test.YtjcblmbndkacgaaEHD
import Derived.WalkKit
import Derived.WalkSpells
import Derived.WalkLawsBesides
import Derived.Lib.Hide
import Derived.Lib.SliceRun
import Derived.Deep.RegionWith
import Derived.OwnWalk
import Derived.Laws.OwnMore
namespace Go.Proofs.Ytjcblmbndkacgaa.fnExprHasObjectRestUnderWrapping
open Go.RowKit
set_option linter.unusedSimpArgs false
set_option linter.unusedVariables false

theorem ownAt {w : World} {g : Nat} {e : TypeId} {sz n : Nat} {cs : Array Value} (h : At w g e cs) (hs : cs.size = n * sz) (hn : n ≤ maxLen) : w.ownsRow g e sz (.slice (some ⟨g, 0, none⟩) n n) n cs.toList :=
  ⟨by simp [hs], .inr ⟨g, n, cs, rfl, Nat.le_refl _, h, Nat.le_refl _, hn, hs, by rw [List.take_of_length_le (by simp [hs])]⟩⟩
theorem atNew (X : World) (R : Nat) (t : TypeId) (cs : Array Value) (o : Obj) (h : X.heap.size = R) : At ((X.alloc (.cells cs t)).alloc o) R t cs := by
  subst h
  exact (At.new X t cs).alloc o
theorem wrapArr {W : World} {b R x1 x2 : Nat} {d : Value} {t : Bool} (hE : IsE d) (hd : EH 0 W d t) (h0 : W.cell? ⟨b, 0, none⟩ = some (.slice (some ⟨R, 0, none⟩) 3 3)) (hR : At W R 32 #[.iface 47 (.pointer (some ⟨x1, 0, none⟩)), .int .i32 0, d, .int .i32 0, .iface 47 (.pointer (some ⟨x2, 0, none⟩)), .int .i32 0]) : EH 0 W (.iface 53 (.pointer (some ⟨b, 0, none⟩))) t := by
  have h := ehArr 0 b R 3 3 _ (fun q => if q = 1 then t else false) R W (Nat.zero_le _) h0 (Nat.zero_le _) (ownAt (n := 3) hR rfl (by unfold maxLen; omega)) ⟨rfl, fun q hq => ?_⟩ (by omega)
  · simpa [anyB, List.range, List.range.loop] using h
  · have hq3 : q = 0 ∨ q = 1 ∨ q = 2 := by omega
    rcases hq3 with rfl | rfl | rfl
    · exact ⟨_, .inr ⟨_, _, rfl⟩, ehId 0 x1 W, rfl, rfl⟩
    · exact ⟨d, hE, hd, rfl, rfl⟩
    · exact ⟨_, .inr ⟨_, _, rfl⟩, ehId 0 x2 W, rfl, rfl⟩
theorem wrapObj {W : World} {b R x1 : Nat} {d : Value} {t : Bool} (hE : IsE d) (hd : EH 0 W d t) (h0 : W.cell? ⟨b, 0, none⟩ = some (.slice (some ⟨R, 0, none⟩) 2 2)) (hR : At W R 62 #[.pointer none, .nilIface, .int .i32 0, .iface 47 (.pointer (some ⟨x1, 0, none⟩)), .int .i32 0, .nilIface, .int .i32 0, .slice none 0 0, .int .i32 0, .int .i32 0, .int .u8 0, .int .u8 0, .pointer none, .nilIface, .int .i32 0, d, .int .i32 0, .nilIface, .int .i32 0, .slice none 0 0, .int .i32 0, .int .i32 0, .int .u8 0, .int .u8 0]) : EH 0 W (.iface 56 (.pointer (some ⟨b, 0, none⟩))) t := by
  have h := ehObj 0 b R 2 2 _ (fun _ => 0) (fun q => if q = 1 then t else false) R W (Nat.zero_le _) h0 (Nat.zero_le _) (ownAt (n := 2) hR rfl (by unfold maxLen; omega)) ⟨rfl, fun q hq => ?_⟩ (by omega)
  · simpa [anyB, List.range, List.range.loop] using h
  · have hq3 : q = 0 ∨ q = 1 := by omega
    rcases hq3 with rfl | rfl
    · exact ⟨_, .inr ⟨_, _, rfl⟩, ehId 0 x1 W, rfl, rfl, rfl, rfl, rfl, rfl, rfl, rfl, rfl, rfl, rfl, rfl⟩
    · exact ⟨d, hE, hd, rfl, rfl, rfl, rfl, rfl, rfl, rfl, rfl, rfl, rfl, rfl, rfl⟩
set_option maxRecDepth 100000 in
set_option maxHeartbeats 8000000 in
theorem zz18 {W : World} {d : Value} {t : Bool} (hE : IsE d) (h : EH 0 W d t) : Calls Try.prog 18 #[.agg #[d, .int .i32 0]] W (QB t W) := by
  have HK := Lib.hid h
  clear h
  rcases hE with rfl | ⟨ty, bb, rfl⟩
  all_goals
    go_enter Try.func18, Try.ntmps18
    go_wp2_with fail
    refine (HK.out _ ((Ex.refl _ W).alloc _)).mono ?_
    rintro e w1 ⟨rfl, hb1⟩
    have HB1 := Lib.hid (bel2 ((Below.refl _ W).alloc (Nat.le_refl _) _) hb1)
    clear hb1 HK
    go_wp2_with fail
    go_ret
    exact ⟨rfl, HB1.out⟩
set_option maxRecDepth 100000 in
set_option maxHeartbeats 8000000 in
theorem bytesB (a0 a1 a2 : Option Addr) (n0 c0 n1 c1 n2 c2 : Nat) (a3 : Int) (w : World) (h0 : n0 ≤ maxLen) (h1 : n1 ≤ maxLen) (h2 : n2 ≤ maxLen) : Calls Try.prog 15 #[.slice a0 n0 c0, .slice a1 n1 c1, .slice a2 n2 c2, .int .u8 a3] w (SomeB w) := by
  unfold maxLen at h0 h1 h2
  by_cases g0 : n0 ≤ 1048576
  · by_cases g1 : n1 ≤ 1048576
    · by_cases g2 : n2 ≤ 1048576
      · go_enter Try.func15, Try.ntmps15
        go_wp2_with fail
        all_goals
          go_ret
          exact ⟨_, rfl, rfl⟩
      · go_enter Try.func15, Try.ntmps15
        go_wp2_with fail
        all_goals
          go_ret
          exact ⟨_, rfl, rfl⟩
    · go_enter Try.func15, Try.ntmps15
      go_wp2_with fail
      all_goals
        go_ret
        exact ⟨_, rfl, rfl⟩
  · go_enter Try.func15, Try.ntmps15
    go_wp2_with fail
    all_goals
      go_ret
      exact ⟨_, rfl, rfl⟩
def ShQ (a0 : Option Addr) (n c0 : Nat) (a2 : Option Addr) (n2 c2 : Nat) (w : World) (e : Ending) (w' : World) : Prop :=
  ∃ x y : Addr, e = .returned (.tuple #[.slice (some x) n n, .slice (some y) n n]) ∧ Below w.heap.size w w' ∧ Calls Try.prog 17 #[.slice a0 n c0, .slice (some x) n n, .slice (some y) n n, .slice a2 n2 c2] w' (BuP w')
set_option maxRecDepth 100000 in
set_option maxHeartbeats 8000000 in
theorem build0 (a0 : Option Addr) (c0 : Nat) (x y : Addr) (a2 : Option Addr) (n2 c2 : Nat) (w : World) : Calls Try.prog 17 #[.slice a0 0 c0, .slice (some x) 0 0, .slice (some y) 0 0, .slice a2 n2 c2] w (BuP w) := by
  go_enter Try.func17, Try.ntmps17
  go_wp2_with fail
  exact bodyPost_ret (v := .agg #[.nilIface, .int .i32 0]) (by simp [results, Try.results17, go_sem, *]) rfl ⟨_, false, rfl, .inl rfl, ehNil _ _, (by repeat (first | with_reducible exact Below.refl _ _ | (with_reducible refine Below.drew ?_) | (with_reducible refine Below.alloc ?_ (by simp; try omega) _) | (with_reducible refine Below.setCell ?_ (by simp; try omega) _)))⟩
set_option maxRecDepth 100000 in
set_option maxHeartbeats 8000000 in
theorem shape0 (a0 : Option Addr) (c0 : Nat) (a1 : Option Addr) (n1 c1 : Nat) (a2 : Option Addr) (n2 c2 : Nat) (w : World) : Calls Try.prog 16 #[.slice a0 0 c0, .slice a1 n1 c1] w (ShQ a0 0 c0 a2 n2 c2 w) := by
  have hmk := fun (w : World) => made (P := Try.prog) (t := 42) (e := 3) (z := .int .i64 0) (sz := 1) (by_ := 8) Try.underlying42 (by kernel_rfl) w 0 (by omega) (by omega)
  simp only [Nat.mul_one, Int.natCast_zero] at hmk
  go_enter Try.func16, Try.ntmps16
  go_wp2_with fail
  go_loopw [10] (fun i wr => i = .int .i64 0 ∧ Hid (Below w.heap.size w wr)) (fun i _ => 0)
  case atStart => exact ⟨rfl, Lib.hid (by repeat (first | with_reducible exact Below.refl _ _ | (with_reducible refine Below.drew ?_) | (with_reducible refine Below.alloc ?_ (by simp; try omega) _) | (with_reducible refine Below.setCell ?_ (by simp; try omega) _)))⟩
  case round =>
    obtain ⟨rfl, HB⟩ := hrel
    go_wp2_with fail
    exact bodyPost_ret (v := .tuple #[.slice (some ⟨w.heap.size, 0, none⟩) 0 0, .slice (some ⟨w.heap.size + 1, 0, none⟩) 0 0]) (by simp [results, Try.results16, go_sem]) rfl ⟨_, _, rfl, HB.out, build0 _ _ _ _ _ _ _ _⟩
set_option maxRecDepth 100000 in
set_option maxHeartbeats 16000000 in
theorem main (a0 : Option Addr) (n0 c0 : Nat) (a1 : Option Addr) (n1 c1 : Nat) (a2 : Option Addr) (n2 c2 : Nat) (a3 : Int) (w : World) (h0 : n0 ≤ 65536) (h1 : n1 ≤ 65536) (h2 : n2 ≤ 65536) (y0 : 0 ≤ a3) (y1 : a3 ≤ 255) (hs : Calls Try.prog 16 #[.slice a0 n0 c0, .slice a1 n1 c1] w (ShQ a0 n0 c0 a2 n2 c2 w)) :
    Calls Try.prog 5 #[.slice a0 n0 c0, .slice a1 n1 c1, .slice a2 n2 c2, .int .u8 a3] w fun e w' => e = .returned (.bool true) ∧ Below w.heap.size w w' := by
  have HS := Lib.hid hs
  have HZ := Lib.hid (bytesB a0 a1 a2 n0 c0 n1 c1 n2 c2 a3 w (by unfold maxLen; omega) (by unfold maxLen; omega) (by unfold maxLen; omega))
  clear hs
  go_enter Try.func5, Try.ntmps5
  go_wp2_with fail
  refine HZ.out.mono ?_
  rintro e w' ⟨bb, rfl, rfl⟩
  clear HZ
  cases bb
  · go_wp2_with fail
    go_ret
    exact ⟨rfl, Below.refl _ _⟩
  go_wp2_with fail
  refine HS.out.mono ?_
  rintro e w1 ⟨x, y, rfl, hb1, hbu⟩
  have HB1 := Lib.hid hb1
  have HBU := Lib.hid hbu
  clear hb1 hbu HS
  go_wp2_with fail
  refine HBU.out.mono ?_
  rintro e w2 ⟨d, t, rfl, hE, hd, hb2⟩
  have HE := Lib.hid hE
  have HD := Lib.hid (hd.low (Nat.zero_le _))
  have HB2 := Lib.hid (bel2 HB1.out hb2)
  clear hE hd hb2 HBU HB1
  rcases HE.out with rfl | ⟨ty, bd, rfl⟩
  · go_wp2_with fail
    refine (zz18 HE.out (HD.out.ex ((Ex.refl _ w2).alloc _))).mono ?_
    rintro e w3 ⟨rfl, hb3⟩
    have B23 := bel2 ((Below.refl _ w2).alloc (Nat.le_refl _) (.cells #[.nilIface, .int .i32 0] 32)) hb3
    have HX3 := Lib.hid (Ex.of B23 0)
    have HB3 := Lib.hid (bel2 HB2.out B23)
    have i0 : w3.cell? ⟨w2.heap.size, 0, none⟩ = some (.nilIface) := kept hb3 (by simp [go_sem])
    have i1 : w3.cell? ⟨w2.heap.size, 1, none⟩ = some (.int .i32 0) := kept hb3 (by simp [go_sem])
    have lw : w2.heap.size < w3.heap.size := World.block_lt_of_cell? _ _ i0
    have lw1 : w2.heap.size < w3.heap.size + 1 := by omega
    have lw2 : w2.heap.size < w3.heap.size + 1 + 1 := by omega
    have lw3 : w2.heap.size < w3.heap.size + 1 + 1 + 1 := by omega
    have lw4 : w2.heap.size < w3.heap.size + 1 + 1 + 1 + 1 := by omega
    have lw5 : w2.heap.size < w3.heap.size + 1 + 1 + 1 + 1 + 1 := by omega
    clear hb3 B23 HB2
    have hc : a3 % 6 = 0 ∨ a3 % 6 = 1 ∨ a3 % 6 = 2 ∨ a3 % 6 = 3 ∨ a3 % 6 = 4 ∨ a3 % 6 = 5 := by omega
    rcases hc with hk | hk | hk | hk | hk | hk
    · go_wp2_with fail
      refine (zz18 (.inr ⟨_, _, rfl⟩) (wrapArr (R := w3.heap.size + 1 + 1 + 1 + 1 + 1) (x1 := w3.heap.size) (x2 := w3.heap.size + 1 + 1) HE.out (HD.out.ex (by repeat (first | exact HX3.out | (with_reducible refine Ex.alloc ?_ _)))) (by simp [go_sem]) (atNew _ _ _ _ _ (by simp)))).mono ?_
      rintro e w9 ⟨rfl, hb9⟩
      have H9 := Lib.hid (show Below w.heap.size w w9 from (bel2 ((by repeat (first | exact HB3.out | (with_reducible refine Below.alloc ?_ (by have := Below.size HB3.out; simp; try omega) _)))) hb9))
      clear hb9
      cases t
      all_goals
        go_wp2_with fail
        go_ret
        exact ⟨rfl, H9.out⟩
    · go_wp2_with fail
      refine (zz18 (.inr ⟨_, _, rfl⟩) (wrapObj (R := w3.heap.size + 1 + 1 + 1 + 1 + 1) (x1 := w3.heap.size) HE.out (HD.out.ex (by repeat (first | exact HX3.out | (with_reducible refine Ex.alloc ?_ _)))) (by simp [go_sem]) (atNew _ _ _ _ _ (by simp)))).mono ?_
      rintro e w9 ⟨rfl, hb9⟩
      have H9 := Lib.hid (show Below w.heap.size w w9 from (bel2 ((by repeat (first | exact HB3.out | (with_reducible refine Below.alloc ?_ (by have := Below.size HB3.out; simp; try omega) _)))) hb9))
      clear hb9
      cases t
      all_goals
        go_wp2_with fail
        go_ret
        exact ⟨rfl, H9.out⟩
    · go_wp2_with fail
      refine (zz18 (.inr ⟨_, _, rfl⟩) (ehAsg 0 _ _ t _ (Nat.zero_le _) HE.out (HD.out.ex (by repeat (first | exact HX3.out | (with_reducible refine Ex.alloc ?_ _)))) (by simp [go_sem]) (by simp [go_sem]) (by simp [go_sem]))).mono ?_
      rintro e w9 ⟨rfl, hb9⟩
      have H9 := Lib.hid (show Below w.heap.size w w9 from (bel2 ((by repeat (first | exact HB3.out | (with_reducible refine Below.alloc ?_ (by have := Below.size HB3.out; simp; try omega) _)))) hb9))
      clear hb9
      cases t
      all_goals
        go_wp2_with fail
        go_ret
        exact ⟨rfl, H9.out⟩
    · go_wp2_with fail
      refine (zz18 (.inr ⟨_, _, rfl⟩) (ehAsg 0 _ _ false _ (Nat.zero_le _) (.inr ⟨_, _, rfl⟩) (ehId 0 w3.heap.size _) (by simp [go_sem]) (by simp [go_sem]) (by simp [go_sem]))).mono ?_
      rintro e w9 ⟨rfl, hb9⟩
      have H9 := Lib.hid (show Below w.heap.size w w9 from (bel2 ((by repeat (first | exact HB3.out | (with_reducible refine Below.alloc ?_ (by have := Below.size HB3.out; simp; try omega) _)))) hb9))
      clear hb9
      cases t
      all_goals
        go_wp2_with fail
        go_ret
        exact ⟨rfl, H9.out⟩
    · go_wp2_with fail
      refine (zz18 (.inr ⟨_, _, rfl⟩) (ehAdd 0 _ _ (Nat.zero_le _) (by simp [go_sem]))).mono ?_
      rintro e w9 ⟨rfl, hb9⟩
      have H9 := Lib.hid (show Below w.heap.size w w9 from (bel2 ((by repeat (first | exact HB3.out | (with_reducible refine Below.alloc ?_ (by have := Below.size HB3.out; simp; try omega) _)))) hb9))
      clear hb9
      cases t
      all_goals
        go_wp2_with fail
        go_ret
        exact ⟨rfl, H9.out⟩
    · go_wp2_with fail
      refine (zz18 (.inr ⟨_, _, rfl⟩) (ehAdd 0 _ _ (Nat.zero_le _) (by simp [go_sem]))).mono ?_
      rintro e w9 ⟨rfl, hb9⟩
      have H9 := Lib.hid (show Below w.heap.size w w9 from (bel2 ((by repeat (first | exact HB3.out | (with_reducible refine Below.alloc ?_ (by have := Below.size HB3.out; simp; try omega) _)))) hb9))
      clear hb9
      cases t
      all_goals
        go_wp2_with fail
        go_ret
        exact ⟨rfl, H9.out⟩
  · go_wp2_with fail
    refine (zz18 HE.out (HD.out.ex ((Ex.refl _ w2).alloc _))).mono ?_
    rintro e w3 ⟨rfl, hb3⟩
    have B23 := bel2 ((Below.refl _ w2).alloc (Nat.le_refl _) (.cells #[.iface ty (.pointer (some ⟨bd, 0, none⟩)), .int .i32 0] 32)) hb3
    have HX3 := Lib.hid (Ex.of B23 0)
    have HB3 := Lib.hid (bel2 HB2.out B23)
    have i0 : w3.cell? ⟨w2.heap.size, 0, none⟩ = some (.iface ty (.pointer (some ⟨bd, 0, none⟩))) := kept hb3 (by simp [go_sem])
    have i1 : w3.cell? ⟨w2.heap.size, 1, none⟩ = some (.int .i32 0) := kept hb3 (by simp [go_sem])
    have lw : w2.heap.size < w3.heap.size := World.block_lt_of_cell? _ _ i0
    have lw1 : w2.heap.size < w3.heap.size + 1 := by omega
    have lw2 : w2.heap.size < w3.heap.size + 1 + 1 := by omega
    have lw3 : w2.heap.size < w3.heap.size + 1 + 1 + 1 := by omega
    have lw4 : w2.heap.size < w3.heap.size + 1 + 1 + 1 + 1 := by omega
    have lw5 : w2.heap.size < w3.heap.size + 1 + 1 + 1 + 1 + 1 := by omega
    clear hb3 B23 HB2
    have hc : a3 % 6 = 0 ∨ a3 % 6 = 1 ∨ a3 % 6 = 2 ∨ a3 % 6 = 3 ∨ a3 % 6 = 4 ∨ a3 % 6 = 5 := by omega
    rcases hc with hk | hk | hk | hk | hk | hk
    · go_wp2_with fail
      refine (zz18 (.inr ⟨_, _, rfl⟩) (wrapArr (R := w3.heap.size + 1 + 1 + 1 + 1 + 1) (x1 := w3.heap.size) (x2 := w3.heap.size + 1 + 1) HE.out (HD.out.ex (by repeat (first | exact HX3.out | (with_reducible refine Ex.alloc ?_ _)))) (by simp [go_sem]) (atNew _ _ _ _ _ (by simp)))).mono ?_
      rintro e w9 ⟨rfl, hb9⟩
      have H9 := Lib.hid (show Below w.heap.size w w9 from (bel2 ((by repeat (first | exact HB3.out | (with_reducible refine Below.alloc ?_ (by have := Below.size HB3.out; simp; try omega) _)))) hb9))
      clear hb9
      cases t
      all_goals
        go_wp2_with fail
        go_ret
        exact ⟨rfl, H9.out⟩
    · go_wp2_with fail
      refine (zz18 (.inr ⟨_, _, rfl⟩) (wrapObj (R := w3.heap.size + 1 + 1 + 1 + 1 + 1) (x1 := w3.heap.size) HE.out (HD.out.ex (by repeat (first | exact HX3.out | (with_reducible refine Ex.alloc ?_ _)))) (by simp [go_sem]) (atNew _ _ _ _ _ (by simp)))).mono ?_
      rintro e w9 ⟨rfl, hb9⟩
      have H9 := Lib.hid (show Below w.heap.size w w9 from (bel2 ((by repeat (first | exact HB3.out | (with_reducible refine Below.alloc ?_ (by have := Below.size HB3.out; simp; try omega) _)))) hb9))
      clear hb9
      cases t
      all_goals
        go_wp2_with fail
        go_ret
        exact ⟨rfl, H9.out⟩
    · go_wp2_with fail
      refine (zz18 (.inr ⟨_, _, rfl⟩) (ehAsg 0 _ _ t _ (Nat.zero_le _) HE.out (HD.out.ex (by repeat (first | exact HX3.out | (with_reducible refine Ex.alloc ?_ _)))) (by simp [go_sem]) (by simp [go_sem]) (by simp [go_sem]))).mono ?_
      rintro e w9 ⟨rfl, hb9⟩
      have H9 := Lib.hid (show Below w.heap.size w w9 from (bel2 ((by repeat (first | exact HB3.out | (with_reducible refine Below.alloc ?_ (by have := Below.size HB3.out; simp; try omega) _)))) hb9))
      clear hb9
      cases t
      all_goals
        go_wp2_with fail
        go_ret
        exact ⟨rfl, H9.out⟩
    · go_wp2_with fail
      refine (zz18 (.inr ⟨_, _, rfl⟩) (ehAsg 0 _ _ false _ (Nat.zero_le _) (.inr ⟨_, _, rfl⟩) (ehId 0 w3.heap.size _) (by simp [go_sem]) (by simp [go_sem]) (by simp [go_sem]))).mono ?_
      rintro e w9 ⟨rfl, hb9⟩
      have H9 := Lib.hid (show Below w.heap.size w w9 from (bel2 ((by repeat (first | exact HB3.out | (with_reducible refine Below.alloc ?_ (by have := Below.size HB3.out; simp; try omega) _)))) hb9))
      clear hb9
      cases t
      all_goals
        go_wp2_with fail
        go_ret
        exact ⟨rfl, H9.out⟩
    · go_wp2_with fail
      refine (zz18 (.inr ⟨_, _, rfl⟩) (ehAdd 0 _ _ (Nat.zero_le _) (by simp [go_sem]))).mono ?_
      rintro e w9 ⟨rfl, hb9⟩
      have H9 := Lib.hid (show Below w.heap.size w w9 from (bel2 ((by repeat (first | exact HB3.out | (with_reducible refine Below.alloc ?_ (by have := Below.size HB3.out; simp; try omega) _)))) hb9))
      clear hb9
      cases t
      all_goals
        go_wp2_with fail
        go_ret
        exact ⟨rfl, H9.out⟩
    · go_wp2_with fail
      refine (zz18 (.inr ⟨_, _, rfl⟩) (ehAdd 0 _ _ (Nat.zero_le _) (by simp [go_sem]))).mono ?_
      rintro e w9 ⟨rfl, hb9⟩
      have H9 := Lib.hid (show Below w.heap.size w w9 from (bel2 ((by repeat (first | exact HB3.out | (with_reducible refine Below.alloc ?_ (by have := Below.size HB3.out; simp; try omega) _)))) hb9))
      clear hb9
      cases t
      all_goals
        go_wp2_with fail
        go_ret
        exact ⟨rfl, H9.out⟩
set_option maxRecDepth 100000 in
set_option maxHeartbeats 8000000 in
theorem early (a0 : Option Addr) (n0 c0 : Nat) (a1 : Option Addr) (n1 c1 : Nat) (a2 : Option Addr) (n2 c2 : Nat) (a3 : Int) (w : World) (l0 : n0 ≤ maxLen) (l1 : n1 ≤ maxLen) (l2 : n2 ≤ maxLen) (h : 65536 < n0 ∨ (n0 ≤ 65536 ∧ 65536 < n1) ∨ (n0 ≤ 65536 ∧ n1 ≤ 65536 ∧ 65536 < n2)) :
    Calls Try.prog 5 #[.slice a0 n0 c0, .slice a1 n1 c1, .slice a2 n2 c2, .int .u8 a3] w fun e w' => e = .returned (.bool true) ∧ Below w.heap.size w w' := by
  have HZ := Lib.hid (bytesB a0 a1 a2 n0 c0 n1 c1 n2 c2 a3 w l0 l1 l2)
  unfold maxLen at l0 l1 l2
  rcases h with h | ⟨h, h'⟩ | ⟨h, h', h''⟩
  all_goals
    go_enter Try.func5, Try.ntmps5
    go_wp2_with fail
    refine HZ.out.mono ?_
    rintro e w' ⟨bb, rfl, rfl⟩
    clear HZ
    cases bb
    all_goals
      go_wp2_with fail
      go_ret
      exact ⟨rfl, Below.refl _ _⟩
set_option maxRecDepth 100000 in
set_option maxHeartbeats 8000000 in
theorem walk (a0 : Option Addr) (len0 cap0 : Nat) (z0 : List Int) (a1 : Option Addr) (len1 cap1 : Nat) (z1 : List Int) (a2 : Option Addr) (len2 cap2 : Nat) (z2 : List Bool) (a3 : Int) (w : World) (w0 : IsRow .u8 w a0 len0 cap0 z0) (w1 : IsRow .i32 w a1 len1 cap1 z1) (w2 : IsBools w a2 len2 cap2 z2) (w3 : (Lit.int .u8 a3).wf = true) :
    Calls Try.prog 5 #[.slice a0 len0 cap0, .slice a1 len1 cap1, .slice a2 len2 cap2, .int .u8 a3] w fun e w' => e = .returned (.bool true) ∧ Below w.heap.size w w' := by
  obtain ⟨l0, l0', hwf0⟩ := len_ints w0
  obtain ⟨l1, l1', hwf1⟩ := len_ints w1
  have l2 := len_bools w2
  by_cases c : 65536 < len0 ∨ (len0 ≤ 65536 ∧ 65536 < len1) ∨ (len0 ≤ 65536 ∧ len1 ≤ 65536 ∧ 65536 < len2)
  · exact early a0 len0 cap0 a1 len1 cap1 a2 len2 cap2 a3 w l0 l1 l2 c
  have b0 : len0 ≤ 65536 := by omega
  have b1 : len1 ≤ 65536 := by omega
  have b2 : len2 ≤ 65536 := by omega
  have hz : ∀ i, 0 ≤ z0.getD i 0 ∧ z0.getD i 0 ≤ 255 := fun i => by
    rcases hwf0 i with h | h
    · exact wf_u8 h
    · simp [List.getD, List.getElem?_eq_none h]
  have hz1 : ∀ i, -2147483648 ≤ z1.getD i 0 ∧ z1.getD i 0 ≤ 2147483647 := fun i => by
    rcases hwf1 i with h | h
    · have hmin : IntKind.i32.min = -2147483648 := rfl
      have hmax : IntKind.i32.max = 2147483647 := rfl
      simp only [Lit.wf, Bool.and_eq_true, decide_eq_true_eq] at h
      exact ⟨by omega, by omega⟩
    · simp [List.getD, List.getElem?_eq_none h]
  obtain ⟨y0, y1⟩ := wf_u8 w3
  refine main a0 len0 cap0 a1 len1 cap1 a2 len2 cap2 a3 w b0 b1 b2 y0 y1 ?_
  by_cases hn : len0 = 0
  · subst hn
    exact shape0 a0 cap0 a1 len1 cap1 a2 len2 cap2 w
  · obtain ⟨B, off, rfl, hc⟩ := rowv_ints w0 (by omega)
    refine (shape B off len0 cap0 z0 a1 len1 cap1 (fun i => z1.getD i 0) w hc hz (rowv_ints w1) hz1 b1 b0 (by omega)).mono ?_
    rintro e w' ⟨cs, ds, rfl, h1, h2, h3, h4, h5⟩
    exact ⟨_, _, rfl, h5, build B off len0 cap0 z0 _ _ cs ds a2 len2 cap2 (fun i => z2.getD i false) w' (fun i hi => kept h5 (hc i hi)) hz h1 h2 h3 h4 ((rowv_bools w2).below h5) b2 b0 (by omega)⟩
end Go.Proofs.Ytjcblmbndkacgaa.fnExprHasObjectRestUnderWrapping
