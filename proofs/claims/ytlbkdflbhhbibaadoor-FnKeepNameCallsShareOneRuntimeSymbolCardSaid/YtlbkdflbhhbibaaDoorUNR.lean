/- Proved here: the contracts of the small readers and of zzNameCall. Conditions as stated. -/
import Derived.Test.YtlbkdflbhhbibaaDoorUNK
import Derived.WalkKit
import Derived.WalkSpells
import Derived.WalkLawsBesides
import Derived.Lib.Hide
import Derived.Lib.SliceRun
import Derived.Deep.RegionWith
import Derived.OwnWalk
import Derived.Laws.OwnMore
import Derived.BigRegion
namespace Go.Proofs.YtlbkdflbhhbibaaDoor
open Go.RowKit
set_option linter.unusedSimpArgs false
set_option linter.unusedVariables false

set_option maxRecDepth 100000 in
theorem asSExpr (x : Nat) (l : Int) (w : World) : Calls Tryd.prog 8 #[.agg #[.iface 40 (.pointer (some ⟨x, 0, none⟩)), .int .i32 l]] w fun e w' => e = .returned (.tuple #[.pointer (some ⟨x, 0, none⟩), .bool true]) ∧ Below w.heap.size w w' := by
  go_enter Tryd.func8, Tryd.ntmps8
  go_wp2_with fail
  exact bodyPost_ret (v := (.tuple #[.pointer (some ⟨x, 0, none⟩), .bool true])) (by simp [results, Tryd.results8, go_sem, *]) rfl ⟨rfl, (by repeat (first | with_reducible exact Below.refl _ _ | (with_reducible refine Below.drew ?_) | (with_reducible refine Below.alloc ?_ (by simp; try omega) _) | (with_reducible refine Below.setCell ?_ (by simp; try omega) _)))⟩

set_option maxRecDepth 100000 in
theorem asCall (x : Nat) (l : Int) (w : World) : Calls Tryd.prog 9 #[.agg #[.iface 45 (.pointer (some ⟨x, 0, none⟩)), .int .i32 l]] w fun e w' => e = .returned (.tuple #[.pointer (some ⟨x, 0, none⟩), .bool true]) ∧ Below w.heap.size w w' := by
  go_enter Tryd.func9, Tryd.ntmps9
  go_wp2_with fail
  exact bodyPost_ret (v := (.tuple #[.pointer (some ⟨x, 0, none⟩), .bool true])) (by simp [results, Tryd.results9, go_sem, *]) rfl ⟨rfl, (by repeat (first | with_reducible exact Below.refl _ _ | (with_reducible refine Below.drew ?_) | (with_reducible refine Below.alloc ?_ (by simp; try omega) _) | (with_reducible refine Below.setCell ?_ (by simp; try omega) _)))⟩

set_option maxRecDepth 100000 in
theorem asIdent (x : Nat) (l : Int) (w : World) (h : At w x 201 #[.int .u32 0, .int .u32 0, .bool false, .bool false, .bool false]) : Calls Tryd.prog 13 #[.agg #[.iface 199 (.pointer (some ⟨x, 0, none⟩)), .int .i32 l]] w fun e w' => e = .returned (.tuple #[.agg #[.int .u32 0, .int .u32 0], .bool true]) ∧ Below w.heap.size w w' := by
  have h0 : w.cell? ⟨x, 0, none⟩ = some (.int .u32 0) := by rw [h.cell]; rfl
  have h1 : w.cell? ⟨x, 1, none⟩ = some (.int .u32 0) := by rw [h.cell]; rfl
  have hl := h.lt
  clear h
  go_enter Tryd.func13, Tryd.ntmps13
  go_wp2_with fail
  exact bodyPost_ret (v := (.tuple #[.agg #[.int .u32 0, .int .u32 0], .bool true])) (by simp [results, Tryd.results13, go_sem, *]) rfl ⟨rfl, (by repeat (first | with_reducible exact Below.refl _ _ | (with_reducible refine Below.drew ?_) | (with_reducible refine Below.alloc ?_ (by simp; try omega) _) | (with_reducible refine Below.setCell ?_ (by simp; try omega) _)))⟩

set_option maxRecDepth 100000 in
theorem asString (x : Nat) (l : Int) (a : Option Addr) (n c : Nat) (w : World) (h : w.cell? ⟨x, 0, none⟩ = some (.slice a n c)) : Calls Tryd.prog 14 #[.agg #[.iface 205 (.pointer (some ⟨x, 0, none⟩)), .int .i32 l]] w fun e w' => e = .returned (.tuple #[.slice a n c, .bool true]) ∧ Below w.heap.size w w' := by
  have hl := World.block_lt_of_cell? _ _ h
  go_enter Tryd.func14, Tryd.ntmps14
  go_wp2_with fail
  exact bodyPost_ret (v := (.tuple #[.slice a n c, .bool true])) (by simp [results, Tryd.results14, go_sem, *]) rfl ⟨rfl, (by repeat (first | with_reducible exact Below.refl _ _ | (with_reducible refine Below.drew ?_) | (with_reducible refine Below.alloc ?_ (by simp; try omega) _) | (with_reducible refine Below.setCell ?_ (by simp; try omega) _)))⟩

set_option maxRecDepth 100000 in
theorem asNumber (x f : Nat) (l : Int) (w : World) (h : w.cell? ⟨x, 0, none⟩ = some (.float .f64 f)) : Calls Tryd.prog 21 #[.agg #[.iface 33 (.pointer (some ⟨x, 0, none⟩)), .int .i32 l]] w fun e w' => e = .returned (.tuple #[.float .f64 f, .bool true]) ∧ Below w.heap.size w w' := by
  have hl := World.block_lt_of_cell? _ _ h
  go_enter Tryd.func21, Tryd.ntmps21
  go_wp2_with fail
  exact bodyPost_ret (v := (.tuple #[.float .f64 f, .bool true])) (by simp [results, Tryd.results21, go_sem, *]) rfl ⟨rfl, (by repeat (first | with_reducible exact Below.refl _ _ | (with_reducible refine Below.drew ?_) | (with_reducible refine Below.alloc ?_ (by simp; try omega) _) | (with_reducible refine Below.setCell ?_ (by simp; try omega) _)))⟩

set_option maxRecDepth 100000 in
theorem symName (B b m : Nat) (l0 : Int) (k : Nat) (w : World) (h : P1 w B b m l0 k) : Calls Tryd.prog 18 #[.pointer (some ⟨b, 0, none⟩), .agg #[.int .u32 0, .int .u32 0]] w fun e w' => e = .returned (.string nmv) ∧ Below w.heap.size w w' := by
  obtain ⟨g, cap, cur, _, _, h106, hat, _, hn1, hn4, _, _⟩ := h
  have h1 : w.cell? ⟨g, 1, none⟩ = some (.string nmv) := by rw [hat.cell]; exact hn1
  have lg := hat.lt
  have lb := World.block_lt_of_cell? _ _ h106
  clear hat hn1 hn4
  go_enter Tryd.func18, Tryd.ntmps18
  go_wp2_with fail
  go_region
  go_wp2_with fail
  go_ret
  exact ⟨rfl, (by repeat (first | with_reducible exact Below.refl _ _ | (with_reducible refine Below.drew ?_) | (with_reducible refine Below.alloc ?_ (by simp; try omega) _) | (with_reducible refine Below.setCell ?_ (by simp; try omega) _)))⟩

set_option maxRecDepth 100000 in
theorem symUse (B b m : Nat) (l0 : Int) (k : Nat) (w : World) (h : P1 w B b m l0 k) : Calls Tryd.prog 19 #[.pointer (some ⟨b, 0, none⟩), .agg #[.int .u32 0, .int .u32 0]] w fun e w' => e = .returned (.int .u32 (k : Int)) ∧ Below w.heap.size w w' := by
  obtain ⟨g, cap, cur, _, _, h106, hat, _, hn1, hn4, _, _⟩ := h
  have h1 : w.cell? ⟨g, 4, none⟩ = some (.int .u32 (k : Int)) := by rw [hat.cell]; exact hn4
  have lg := hat.lt
  have lb := World.block_lt_of_cell? _ _ h106
  clear hat hn1 hn4
  go_enter Tryd.func19, Tryd.ntmps19
  go_wp2_with fail
  go_region
  go_wp2_with fail
  go_ret
  exact ⟨rfl, (by repeat (first | with_reducible exact Below.refl _ _ | (with_reducible refine Below.drew ?_) | (with_reducible refine Below.alloc ?_ (by simp; try omega) _) | (with_reducible refine Below.setCell ?_ (by simp; try omega) _)))⟩

set_option maxRecDepth 100000 in
theorem symCount (b n : Nat) (a : Option Addr) (c : Nat) (w : World) (h : w.cell? ⟨b, 106, none⟩ = some (.slice a n c)) : Calls Tryd.prog 17 #[.pointer (some ⟨b, 0, none⟩)] w fun e w' => e = .returned (.int .i64 (n : Int)) ∧ w = w' := by
  have lb := World.block_lt_of_cell? _ _ h
  go_enter Tryd.func17, Tryd.ntmps17
  go_wp2_with fail
  go_ret
  exact ⟨rfl, rfl⟩

theorem rest_len (s : ByteArray) : ∀ n pos, s.size - pos ≤ n → (rest s pos).length ≤ 2 * n := by
  intro n
  induction n with
  | zero => intro pos h; rw [rest_end s pos (by omega)]; simp
  | succ n ih =>
    intro pos h
    by_cases hp : pos < s.size
    · have hd := dec_wd s pos hp
      have := ih (pos + (Utf8.decode s pos).2) (by omega)
      have := enc_len (Utf8.decode s pos).1
      rw [rest_step s pos hp, List.length_append]
      omega
    · rw [rest_end s pos hp]; simp
theorem nm_ne : (nmv.toList == [95, 95, 110, 97, 109, 101]) = true := by simp [nmv, go_sem]
set_option maxRecDepth 100000 in
set_option maxHeartbeats 8000000 in
theorem nameCall (B b m : Nat) (l0 l l2 : Int) (k e0 z f : Nat) (s : ByteArray) (u : Bool) (w : World) (hs : s.size ≤ 1048576) (hp : P1 w B b m l0 k) (h : NC w e0 l l2 (.iface 33 (.pointer (some ⟨z, 0, none⟩))) s u) (hz : w.cell? ⟨z, 0, none⟩ = some (.float .f64 f)) :
    Calls Tryd.prog 10 #[.pointer (some ⟨b, 0, none⟩), .pointer (some ⟨e0, 0, none⟩), .int .i32 l, .int .i32 l2, .float .f64 f, .string s] w fun e w' => e = .returned (.bool true) ∧ Below w.heap.size w w' := by
  obtain ⟨i, r, q, D, v, h1, h2, h3, h4, h5⟩ := h
  obtain ⟨va, vc, rfl, hrow⟩ := h5.read
  have HN := Lib.hid (fun W (hW : Below w.heap.size w W) => symName B b m l0 k W (hp.below hW))
  have HID := Lib.hid (fun W (hW : Below w.heap.size w W) => asIdent i l W (h2.below hW h2.lt))
  have hq0 : w.cell? ⟨q, 0, none⟩ = some (.slice va (rest s 0).length vc) := by rw [h4.cell]; rfl
  have HST := Lib.hid (fun W (hW : Below w.heap.size w W) => asString q l va (rest s 0).length vc W (kept hW hq0))
  have HNU := Lib.hid (fun W (hW : Below w.heap.size w W) => asNumber z f l2 W (kept hW hz))
  have hlen : (rest s 0).length ≤ 2097152 := by
    have := rest_len s s.size 0 (by omega)
    omega
  have HZ16 := Lib.hid (fun W => z16 s W hs)
  obtain ⟨n, hn⟩ : ∃ n, n = (rest s 0).length := ⟨_, rfl⟩
  rw [← hn] at hlen HST hrow
  have HRW := Lib.hid hrow
  have HNN := Lib.hid hn
  have H1 := Lib.hid h1
  have B0 := Lib.hid (Below.refl w.heap.size w)
  have H3 := Lib.hid h3
  have HS := Lib.hid hs
  have c0 : w.cell? ⟨e0, 0, none⟩ = some (.iface 199 (.pointer (some ⟨i, 0, none⟩))) := by rw [h1.cell]; rfl
  have c1 : w.cell? ⟨e0, 1, none⟩ = some (.int .i32 l) := by rw [h1.cell]; rfl
  have c2 : w.cell? ⟨e0, 2, none⟩ = some (.slice (some ⟨r, 0, none⟩) 2 2) := by rw [h1.cell]; rfl
  have le := h1.lt
  have ne1 : (l != l) = false := by simp
  have ne2 : (l2 != l2) = false := by simp
  clear h1 h2 h3 h4 h5 hrow hp hz hq0 hs hn
  go_enter Tryd.func10, Tryd.ntmps10
  go_wp2_with fail
  refine (HID.out _ B0.out).mono ?_
  rintro e w1 ⟨rfl, hb1⟩
  have B1 := Lib.hid (hb1.alloc hb1.size (.cells #[.int .u32 0, .int .u32 0] 58))
  have nm1 := nm_ne
  clear hb1 c0 c1 c2
  go_wp2_with fail
  refine (HN.out _ B1.out).mono ?_
  rintro e w2 ⟨rfl, hb2⟩
  have BB := B1.out.trans (hb2.mono B1.out.size)
  have A1 := H1.out.below BB H1.out.lt
  have A3 := H3.out.below BB H3.out.lt
  have c2 : w2.cell? ⟨e0, 2, none⟩ = some (.slice (some ⟨r, 0, none⟩) 2 2) := by rw [A1.cell]; rfl
  have d0 : w2.cell? ⟨r, 0, none⟩ = some (.iface 33 (.pointer (some ⟨z, 0, none⟩))) := by rw [A3.cell]; rfl
  have d1 : w2.cell? ⟨r, 1, none⟩ = some (.int .i32 l2) := by rw [A3.cell]; rfl
  have le := A1.lt
  have lr := A3.lt
  have B2 := Lib.hid BB
  clear hb2 BB A1 A3 B1
  go_wp2_with fail
  refine (HNU.out _ B2.out).mono ?_
  rintro e w3 ⟨rfl, hb3⟩
  have BB := B2.out.trans (hb3.mono B2.out.size)
  have A1 := H1.out.below BB H1.out.lt
  have A3 := H3.out.below BB H3.out.lt
  have c2' : w3.cell? ⟨e0, 2, none⟩ = some (.slice (some ⟨r, 0, none⟩) 2 2) := by rw [A1.cell]; rfl
  have d2 : w3.cell? ⟨r, 2, none⟩ = some (.iface 205 (.pointer (some ⟨q, 0, none⟩))) := by rw [A3.cell]; rfl
  have d3 : w3.cell? ⟨r, 3, none⟩ = some (.int .i32 l) := by rw [A3.cell]; rfl
  have le' := A1.lt
  have lr' := A3.lt
  have B3 := Lib.hid BB
  obtain ⟨o, ho⟩ : ∃ o, o = (FloatKind.f64.format.order f f == some .eq) := ⟨_, rfl⟩
  have ho1 : (FloatKind.f64.format.order f f == some .eq) = o := ho.symm
  have ho2 : (FloatKind.f64.format.order f f != some .eq) = !o := by rw [ho]; rfl
  clear hb3 BB A1 A3 B2 c2 d0 d1 ho
  cases o
  all_goals
    go_wp2_with fail
    refine (HST.out _ B3.out).mono ?_
    rintro e w4 ⟨rfl, hb4⟩
    have B4 := Lib.hid (B3.out.trans (hb4.mono B3.out.size))
    have R4 := Lib.hid (HRW.out.below B4.out)
    clear hb4 c2' d2 d3 ho1 ho2
    go_wp2_with fail
    refine (HZ16.out _).mono ?_
    rintro e w5 ⟨v2, rfl, how, hb5⟩
    obtain ⟨vb, vd, rfl, hr2⟩ := how.read
    rw [← HNN.out] at hr2
    have B5 := Lib.hid (B4.out.trans (hb5.mono B4.out.size))
    have HZE := Lib.hid (zeq n _ va vb vc vd w5 (R4.out.below hb5) hr2 (by omega))
    rw [← HNN.out]
    clear hb5 how hr2
    go_wp2_with fail
    refine HZE.out.mono ?_
    rintro e w6 ⟨rfl, hb6⟩
    have B6 := Lib.hid (B5.out.trans (hb6.mono B5.out.size))
    clear hb6
    go_wp2_with fail
    go_ret
    exact ⟨rfl, B6.out⟩
end Go.Proofs.YtlbkdflbhhbibaaDoor
