/- Proved here: contracts of the jsxExprsEqual export and of zzDefine. Conditions: the cells as stated. -/
import Derived.Test.YtcbbnkccfbgahaaJXD
import Derived.WalkKit
import Derived.WalkSpells
import Derived.WalkLawsBesides
import Derived.Lib.Hide
import Derived.Lib.SliceRun
import Derived.Deep.RegionWith
namespace Go.Proofs.Ytcbbnkccfbgahaa
open Go.RowKit
set_option linter.unusedSimpArgs false
set_option linter.unusedVariables false

def DPost (k : Nat) (a : Option Addr) (n c : Nat) (w : World) (e : Ending) (w' : World) : Prop :=
  ∃ v, e = .returned (.agg #[v, .slice a n c, .int .u32 0]) ∧ CV w' k v ∧ Below w.heap.size w w'
set_option maxRecDepth 100000 in
theorem zjeq_any (k1 k2 n m c d : Nat) (a b : Option Addr) (v1 v2 : Value) (x y : Int) (zs ys : List ByteArray) (w : World) (h1 : CV w k1 v1) (h2 : CV w k2 v2) (r1 : RowV w a n (fun i => .string (sAt zs i))) (r2 : RowV w b m (fun i => .string (sAt ys i))) (hn : n ≤ 1048576) (hm : m ≤ 1048576) :
    Calls Try.prog 13 #[.agg #[v1, .slice a n c, .int .u32 x], .agg #[v2, .slice b m d, .int .u32 y]] w (JPost k1 k2 n m zs ys w) := by
  have J := Lib.hid (show ∀ W, Below w.heap.size w W → Calls Try.prog 38 #[.agg #[v1, .slice a n c, .int .u32 x], .agg #[v2, .slice b m d, .int .u32 y]] W (JPost k1 k2 n m zs ys W) from fun W hW => jeq_any k1 k2 n m c d a b v1 v2 x y zs ys W (h1.below hW) (h2.below hW) (r1.below hW) (r2.below hW) hn hm)
  have Z1 := Lib.hid h1.zero
  have Z2 := Lib.hid h2.zero
  clear h1 h2 r1 r2
  rcases Z1.out with ⟨-, rfl⟩ | ⟨-, t1, p1, rfl⟩
  all_goals
    rcases Z2.out with ⟨-, rfl⟩ | ⟨-, t2, p2, rfl⟩
    all_goals
      clear Z1 Z2
      go_enter Try.func13, Try.ntmps13
      go_wp2_with fail
      refine (J.out _ (bel2 (ba w _) (ba _ _))).mono ?_
      rintro e w3 ⟨g, rfl, hg, hb⟩
      have HG := Lib.hid hg
      clear hg
      go_wp2_with fail
      go_ret
      exact ⟨g, rfl, HG.out, bel2 (bel2 (ba w _) (ba _ _)) hb⟩

set_option maxRecDepth 100000 in
theorem def_none (a : Option Addr) (n c : Nat) (w : World) : Calls Try.prog 37 #[.slice a n c] w (DPost 0 a n c w) := by
  go_enter Try.func37, Try.ntmps37
  go_wp2_with fail
  exact bodyPost_ret (v := .agg #[.nilIface, .slice a n c, .int .u32 0]) (by simp [results, Try.results37, go_sem]) rfl ⟨_, rfl, .inl ⟨rfl, rfl⟩, (by repeat (first | with_reducible exact Below.refl _ _ | (with_reducible refine Below.drew ?_) | (with_reducible refine Below.alloc ?_ (by simp; try omega) _) | (with_reducible refine Below.setCell ?_ (by simp; try omega) _)))⟩

set_option maxRecDepth 100000 in
theorem def_null (a : Option Addr) (n c : Nat) (w : World) : Calls Try.prog 34 #[.slice a n c] w (DPost 1 a n c w) := by
  go_enter Try.func34, Try.ntmps34
  go_wp2_with fail
  exact bodyPost_ret (v := .agg #[.iface 91 (.pointer (some ⟨w.heap.size + 1, 0, none⟩)), .slice a n c, .int .u32 0]) (by simp [results, Try.results34, go_sem]) rfl ⟨_, rfl, .inr (.inl ⟨rfl, _, rfl⟩), (by repeat (first | with_reducible exact Below.refl _ _ | (with_reducible refine Below.drew ?_) | (with_reducible refine Below.alloc ?_ (by simp; try omega) _) | (with_reducible refine Below.setCell ?_ (by simp; try omega) _)))⟩

set_option maxRecDepth 100000 in
theorem def_und (a : Option Addr) (n c : Nat) (w : World) : Calls Try.prog 35 #[.slice a n c] w (DPost 2 a n c w) := by
  go_enter Try.func35, Try.ntmps35
  go_wp2_with fail
  exact bodyPost_ret (v := .agg #[.iface 94 (.pointer (some ⟨w.heap.size + 1, 0, none⟩)), .slice a n c, .int .u32 0]) (by simp [results, Try.results35, go_sem]) rfl ⟨_, rfl, .inr (.inr (.inl ⟨rfl, _, rfl⟩)), (by repeat (first | with_reducible exact Below.refl _ _ | (with_reducible refine Below.drew ?_) | (with_reducible refine Below.alloc ?_ (by simp; try omega) _) | (with_reducible refine Below.setCell ?_ (by simp; try omega) _)))⟩

set_option maxRecDepth 100000 in
theorem def_false (a : Option Addr) (n c : Nat) (w : World) : Calls Try.prog 36 #[.slice a n c, .bool false] w (DPost 3 a n c w) := by
  go_enter Try.func36, Try.ntmps36
  go_wp2_with fail
  exact bodyPost_ret (v := .agg #[.iface 96 (.pointer (some ⟨w.heap.size + 1, 0, none⟩)), .slice a n c, .int .u32 0]) (by simp [results, Try.results36, go_sem]) rfl ⟨_, rfl, .inr (.inr (.inr ⟨false, _, rfl, rfl, by go_simp⟩)), (by repeat (first | with_reducible exact Below.refl _ _ | (with_reducible refine Below.drew ?_) | (with_reducible refine Below.alloc ?_ (by simp; try omega) _) | (with_reducible refine Below.setCell ?_ (by simp; try omega) _)))⟩

set_option maxRecDepth 100000 in
theorem def_true (a : Option Addr) (n c : Nat) (w : World) : Calls Try.prog 36 #[.slice a n c, .bool true] w (DPost 4 a n c w) := by
  go_enter Try.func36, Try.ntmps36
  go_wp2_with fail
  exact bodyPost_ret (v := .agg #[.iface 96 (.pointer (some ⟨w.heap.size + 1, 0, none⟩)), .slice a n c, .int .u32 0]) (by simp [results, Try.results36, go_sem]) rfl ⟨_, rfl, .inr (.inr (.inr ⟨true, _, rfl, rfl, by go_simp⟩)), (by repeat (first | with_reducible exact Below.refl _ _ | (with_reducible refine Below.drew ?_) | (with_reducible refine Below.alloc ?_ (by simp; try omega) _) | (with_reducible refine Below.setCell ?_ (by simp; try omega) _)))⟩

theorem CV.sets {w : World} {k B : Nat} {v u0 u1 u2 : Value} (h : CV w k v) (c0 : w.cell? ⟨B, 0, none⟩ = some .nilIface) : CV (((w.setCell ⟨B, 0, none⟩ u0).setCell ⟨B, 1, none⟩ u1).setCell ⟨B, 2, none⟩ u2) k v := by
  rcases h with h | h | h | ⟨b, g, h1, h2, h3⟩
  · exact .inl h
  · exact .inr (.inl h)
  · exact .inr (.inr (.inl h))
  · have hg : g ≠ B := fun e => by subst e; rw [c0] at h3; cases h3
    exact .inr (.inr (.inr ⟨b, g, h1, h2, kSet (kSet (kSet h3 hg) hg) hg⟩))

set_option maxRecDepth 100000 in
set_option maxHeartbeats 2000000 in
theorem define_any (a : Option Addr) (n c : Nat) (z : Int) (w : World) (hz0 : 0 ≤ z) (hz1 : z ≤ 255) : Calls Try.prog 12 #[.slice a n c, .int .u8 z] w (DPost (z % 5).toNat a n c w) := by
  have h5 : z % 5 = 0 ∨ z % 5 = 1 ∨ z % 5 = 2 ∨ z % 5 = 3 ∨ z % 5 = 4 := by omega
  rcases h5 with h5 | h5 | h5 | h5 | h5
  · go_enter Try.func12, Try.ntmps12
    go_wp2_with fail
    refine (def_none _ _ _ _).mono ?_
    rintro e w1 ⟨v, rfl, hv, hb⟩
    have Z := Lib.hid hv.zero
    have HV := Lib.hid hv
    have c0 := kept hb (show (w.alloc (.cells #[.nilIface, .slice none 0 0, .int .u32 0] 32)).cell? ⟨w.heap.size, 0, none⟩ = some .nilIface by go_simp)
    have c1 := kept hb (show (w.alloc (.cells #[.nilIface, .slice none 0 0, .int .u32 0] 32)).cell? ⟨w.heap.size, 1, none⟩ = some (.slice none 0 0) by go_simp)
    have c2 := kept hb (show (w.alloc (.cells #[.nilIface, .slice none 0 0, .int .u32 0] 32)).cell? ⟨w.heap.size, 2, none⟩ = some (.int .u32 0) by go_simp)
    have f0 : w1.frozen? ⟨w.heap.size, 0, none⟩ = false := keptF hb (show (w.alloc (.cells #[.nilIface, .slice none 0 0, .int .u32 0] 32)).cell? ⟨w.heap.size, 0, none⟩ = some .nilIface by go_simp) (by go_simp)
    have f1 : w1.frozen? ⟨w.heap.size, 1, none⟩ = false := keptF hb (show (w.alloc (.cells #[.nilIface, .slice none 0 0, .int .u32 0] 32)).cell? ⟨w.heap.size, 1, none⟩ = some (.slice none 0 0) by go_simp) (by go_simp)
    have f2 : w1.frozen? ⟨w.heap.size, 2, none⟩ = false := keptF hb (show (w.alloc (.cells #[.nilIface, .slice none 0 0, .int .u32 0] 32)).cell? ⟨w.heap.size, 2, none⟩ = some (.int .u32 0) by go_simp) (by go_simp)
    have HB := Lib.hid (show Below w.heap.size w w1 from (bel2 (ba w _) hb))
    clear hv hb
    rcases Z.out with ⟨-, rfl⟩ | ⟨-, t, p, rfl⟩
    · clear Z
      go_wp2_with fail
      exact bodyPost_ret (v := .agg #[.nilIface, .slice a n c, .int .u32 0]) (by simp [results, Try.results12, go_sem, c0, c1, c2, f0, f1, f2]) rfl ⟨_, rfl, by rw [h5]; exact HV.out.sets c0, ((HB.out.setCell (Nat.le_refl _) _).setCell (Nat.le_refl _) _).setCell (Nat.le_refl _) _⟩
    · clear Z
      go_wp2_with fail
      exact bodyPost_ret (v := .agg #[.iface t p, .slice a n c, .int .u32 0]) (by simp [results, Try.results12, go_sem, c0, c1, c2, f0, f1, f2]) rfl ⟨_, rfl, by rw [h5]; exact HV.out.sets c0, ((HB.out.setCell (Nat.le_refl _) _).setCell (Nat.le_refl _) _).setCell (Nat.le_refl _) _⟩
  · go_enter Try.func12, Try.ntmps12
    go_wp2_with fail
    refine (def_null _ _ _ _).mono ?_
    rintro e w1 ⟨v, rfl, hv, hb⟩
    have Z := Lib.hid hv.zero
    have HV := Lib.hid hv
    have c0 := kept hb (show (w.alloc (.cells #[.nilIface, .slice none 0 0, .int .u32 0] 32)).cell? ⟨w.heap.size, 0, none⟩ = some .nilIface by go_simp)
    have c1 := kept hb (show (w.alloc (.cells #[.nilIface, .slice none 0 0, .int .u32 0] 32)).cell? ⟨w.heap.size, 1, none⟩ = some (.slice none 0 0) by go_simp)
    have c2 := kept hb (show (w.alloc (.cells #[.nilIface, .slice none 0 0, .int .u32 0] 32)).cell? ⟨w.heap.size, 2, none⟩ = some (.int .u32 0) by go_simp)
    have f0 : w1.frozen? ⟨w.heap.size, 0, none⟩ = false := keptF hb (show (w.alloc (.cells #[.nilIface, .slice none 0 0, .int .u32 0] 32)).cell? ⟨w.heap.size, 0, none⟩ = some .nilIface by go_simp) (by go_simp)
    have f1 : w1.frozen? ⟨w.heap.size, 1, none⟩ = false := keptF hb (show (w.alloc (.cells #[.nilIface, .slice none 0 0, .int .u32 0] 32)).cell? ⟨w.heap.size, 1, none⟩ = some (.slice none 0 0) by go_simp) (by go_simp)
    have f2 : w1.frozen? ⟨w.heap.size, 2, none⟩ = false := keptF hb (show (w.alloc (.cells #[.nilIface, .slice none 0 0, .int .u32 0] 32)).cell? ⟨w.heap.size, 2, none⟩ = some (.int .u32 0) by go_simp) (by go_simp)
    have HB := Lib.hid (show Below w.heap.size w w1 from (bel2 (ba w _) hb))
    clear hv hb
    rcases Z.out with ⟨-, rfl⟩ | ⟨-, t, p, rfl⟩
    · clear Z
      go_wp2_with fail
      exact bodyPost_ret (v := .agg #[.nilIface, .slice a n c, .int .u32 0]) (by simp [results, Try.results12, go_sem, c0, c1, c2, f0, f1, f2]) rfl ⟨_, rfl, by rw [h5]; exact HV.out.sets c0, ((HB.out.setCell (Nat.le_refl _) _).setCell (Nat.le_refl _) _).setCell (Nat.le_refl _) _⟩
    · clear Z
      go_wp2_with fail
      exact bodyPost_ret (v := .agg #[.iface t p, .slice a n c, .int .u32 0]) (by simp [results, Try.results12, go_sem, c0, c1, c2, f0, f1, f2]) rfl ⟨_, rfl, by rw [h5]; exact HV.out.sets c0, ((HB.out.setCell (Nat.le_refl _) _).setCell (Nat.le_refl _) _).setCell (Nat.le_refl _) _⟩
  · go_enter Try.func12, Try.ntmps12
    go_wp2_with fail
    refine (def_und _ _ _ _).mono ?_
    rintro e w1 ⟨v, rfl, hv, hb⟩
    have Z := Lib.hid hv.zero
    have HV := Lib.hid hv
    have c0 := kept hb (show (w.alloc (.cells #[.nilIface, .slice none 0 0, .int .u32 0] 32)).cell? ⟨w.heap.size, 0, none⟩ = some .nilIface by go_simp)
    have c1 := kept hb (show (w.alloc (.cells #[.nilIface, .slice none 0 0, .int .u32 0] 32)).cell? ⟨w.heap.size, 1, none⟩ = some (.slice none 0 0) by go_simp)
    have c2 := kept hb (show (w.alloc (.cells #[.nilIface, .slice none 0 0, .int .u32 0] 32)).cell? ⟨w.heap.size, 2, none⟩ = some (.int .u32 0) by go_simp)
    have f0 : w1.frozen? ⟨w.heap.size, 0, none⟩ = false := keptF hb (show (w.alloc (.cells #[.nilIface, .slice none 0 0, .int .u32 0] 32)).cell? ⟨w.heap.size, 0, none⟩ = some .nilIface by go_simp) (by go_simp)
    have f1 : w1.frozen? ⟨w.heap.size, 1, none⟩ = false := keptF hb (show (w.alloc (.cells #[.nilIface, .slice none 0 0, .int .u32 0] 32)).cell? ⟨w.heap.size, 1, none⟩ = some (.slice none 0 0) by go_simp) (by go_simp)
    have f2 : w1.frozen? ⟨w.heap.size, 2, none⟩ = false := keptF hb (show (w.alloc (.cells #[.nilIface, .slice none 0 0, .int .u32 0] 32)).cell? ⟨w.heap.size, 2, none⟩ = some (.int .u32 0) by go_simp) (by go_simp)
    have HB := Lib.hid (show Below w.heap.size w w1 from (bel2 (ba w _) hb))
    clear hv hb
    rcases Z.out with ⟨-, rfl⟩ | ⟨-, t, p, rfl⟩
    · clear Z
      go_wp2_with fail
      exact bodyPost_ret (v := .agg #[.nilIface, .slice a n c, .int .u32 0]) (by simp [results, Try.results12, go_sem, c0, c1, c2, f0, f1, f2]) rfl ⟨_, rfl, by rw [h5]; exact HV.out.sets c0, ((HB.out.setCell (Nat.le_refl _) _).setCell (Nat.le_refl _) _).setCell (Nat.le_refl _) _⟩
    · clear Z
      go_wp2_with fail
      exact bodyPost_ret (v := .agg #[.iface t p, .slice a n c, .int .u32 0]) (by simp [results, Try.results12, go_sem, c0, c1, c2, f0, f1, f2]) rfl ⟨_, rfl, by rw [h5]; exact HV.out.sets c0, ((HB.out.setCell (Nat.le_refl _) _).setCell (Nat.le_refl _) _).setCell (Nat.le_refl _) _⟩
  · go_enter Try.func12, Try.ntmps12
    go_wp2_with fail
    refine (def_false _ _ _ _).mono ?_
    rintro e w1 ⟨v, rfl, hv, hb⟩
    have Z := Lib.hid hv.zero
    have HV := Lib.hid hv
    have c0 := kept hb (show (w.alloc (.cells #[.nilIface, .slice none 0 0, .int .u32 0] 32)).cell? ⟨w.heap.size, 0, none⟩ = some .nilIface by go_simp)
    have c1 := kept hb (show (w.alloc (.cells #[.nilIface, .slice none 0 0, .int .u32 0] 32)).cell? ⟨w.heap.size, 1, none⟩ = some (.slice none 0 0) by go_simp)
    have c2 := kept hb (show (w.alloc (.cells #[.nilIface, .slice none 0 0, .int .u32 0] 32)).cell? ⟨w.heap.size, 2, none⟩ = some (.int .u32 0) by go_simp)
    have f0 : w1.frozen? ⟨w.heap.size, 0, none⟩ = false := keptF hb (show (w.alloc (.cells #[.nilIface, .slice none 0 0, .int .u32 0] 32)).cell? ⟨w.heap.size, 0, none⟩ = some .nilIface by go_simp) (by go_simp)
    have f1 : w1.frozen? ⟨w.heap.size, 1, none⟩ = false := keptF hb (show (w.alloc (.cells #[.nilIface, .slice none 0 0, .int .u32 0] 32)).cell? ⟨w.heap.size, 1, none⟩ = some (.slice none 0 0) by go_simp) (by go_simp)
    have f2 : w1.frozen? ⟨w.heap.size, 2, none⟩ = false := keptF hb (show (w.alloc (.cells #[.nilIface, .slice none 0 0, .int .u32 0] 32)).cell? ⟨w.heap.size, 2, none⟩ = some (.int .u32 0) by go_simp) (by go_simp)
    have HB := Lib.hid (show Below w.heap.size w w1 from (bel2 (ba w _) hb))
    clear hv hb
    rcases Z.out with ⟨-, rfl⟩ | ⟨-, t, p, rfl⟩
    · clear Z
      go_wp2_with fail
      exact bodyPost_ret (v := .agg #[.nilIface, .slice a n c, .int .u32 0]) (by simp [results, Try.results12, go_sem, c0, c1, c2, f0, f1, f2]) rfl ⟨_, rfl, by rw [h5]; exact HV.out.sets c0, ((HB.out.setCell (Nat.le_refl _) _).setCell (Nat.le_refl _) _).setCell (Nat.le_refl _) _⟩
    · clear Z
      go_wp2_with fail
      exact bodyPost_ret (v := .agg #[.iface t p, .slice a n c, .int .u32 0]) (by simp [results, Try.results12, go_sem, c0, c1, c2, f0, f1, f2]) rfl ⟨_, rfl, by rw [h5]; exact HV.out.sets c0, ((HB.out.setCell (Nat.le_refl _) _).setCell (Nat.le_refl _) _).setCell (Nat.le_refl _) _⟩
  · go_enter Try.func12, Try.ntmps12
    go_wp2_with fail
    refine (def_true _ _ _ _).mono ?_
    rintro e w1 ⟨v, rfl, hv, hb⟩
    have Z := Lib.hid hv.zero
    have HV := Lib.hid hv
    have c0 := kept hb (show (w.alloc (.cells #[.nilIface, .slice none 0 0, .int .u32 0] 32)).cell? ⟨w.heap.size, 0, none⟩ = some .nilIface by go_simp)
    have c1 := kept hb (show (w.alloc (.cells #[.nilIface, .slice none 0 0, .int .u32 0] 32)).cell? ⟨w.heap.size, 1, none⟩ = some (.slice none 0 0) by go_simp)
    have c2 := kept hb (show (w.alloc (.cells #[.nilIface, .slice none 0 0, .int .u32 0] 32)).cell? ⟨w.heap.size, 2, none⟩ = some (.int .u32 0) by go_simp)
    have f0 : w1.frozen? ⟨w.heap.size, 0, none⟩ = false := keptF hb (show (w.alloc (.cells #[.nilIface, .slice none 0 0, .int .u32 0] 32)).cell? ⟨w.heap.size, 0, none⟩ = some .nilIface by go_simp) (by go_simp)
    have f1 : w1.frozen? ⟨w.heap.size, 1, none⟩ = false := keptF hb (show (w.alloc (.cells #[.nilIface, .slice none 0 0, .int .u32 0] 32)).cell? ⟨w.heap.size, 1, none⟩ = some (.slice none 0 0) by go_simp) (by go_simp)
    have f2 : w1.frozen? ⟨w.heap.size, 2, none⟩ = false := keptF hb (show (w.alloc (.cells #[.nilIface, .slice none 0 0, .int .u32 0] 32)).cell? ⟨w.heap.size, 2, none⟩ = some (.int .u32 0) by go_simp) (by go_simp)
    have HB := Lib.hid (show Below w.heap.size w w1 from (bel2 (ba w _) hb))
    clear hv hb
    rcases Z.out with ⟨-, rfl⟩ | ⟨-, t, p, rfl⟩
    · clear Z
      go_wp2_with fail
      exact bodyPost_ret (v := .agg #[.nilIface, .slice a n c, .int .u32 0]) (by simp [results, Try.results12, go_sem, c0, c1, c2, f0, f1, f2]) rfl ⟨_, rfl, by rw [h5]; exact HV.out.sets c0, ((HB.out.setCell (Nat.le_refl _) _).setCell (Nat.le_refl _) _).setCell (Nat.le_refl _) _⟩
    · clear Z
      go_wp2_with fail
      exact bodyPost_ret (v := .agg #[.iface t p, .slice a n c, .int .u32 0]) (by simp [results, Try.results12, go_sem, c0, c1, c2, f0, f1, f2]) rfl ⟨_, rfl, by rw [h5]; exact HV.out.sets c0, ((HB.out.setCell (Nat.le_refl _) _).setCell (Nat.le_refl _) _).setCell (Nat.le_refl _) _⟩
end Go.Proofs.Ytcbbnkccfbgahaa
