/- Proved here: what analyzeProperty answers at a method. Conditions: the cells of the parser and of the class, as stated. -/
import Derived.Test.YtjnffbnipjkibaaDoorAMP
import Derived.WalkKit
import Derived.WalkSpells
import Derived.WalkLawsBesides
import Derived.Lib.Hide
import Derived.Lib.SliceRun
import Derived.Deep.RegionWith
import Derived.OwnWalk
import Derived.Laws.OwnMore
import Derived.Deep.QuietTactic
import Derived.BigQuiet
namespace Go.Proofs.YtjnffbnipjkibaaDoor
open Go.RowKit
set_option linter.unusedSimpArgs false
set_option linter.unusedVariables false
set_option maxRecDepth 100000 in
set_option maxHeartbeats 8000000 in
theorem isMethod (w : World) : Calls Tryd.prog 33 #[.int .u8 1] w fun e w' => e = .returned (.bool true) ∧ w = w' := by
  go_enter Tryd.func33, Tryd.ntmps33
  go_wp2_with fail
  go_ret
  exact ⟨rfl, rfl⟩
theorem has0 (w : World) : Calls Tryd.prog 34 #[.int .u8 0, .int .u8 1] w fun e w' => e = .returned (.bool false) ∧ w = w' := by
  go_enter Tryd.func34, Tryd.ntmps34
  go_wp2_with fail
  go_ret
  exact ⟨rfl, rfl⟩
theorem has1 (w : World) : Calls Tryd.prog 34 #[.int .u8 1, .int .u8 1] w fun e w' => e = .returned (.bool true) ∧ w = w' := by
  go_enter Tryd.func34, Tryd.ntmps34
  go_wp2_with fail
  go_ret
  exact ⟨rfl, rfl⟩
theorem has2 (w : World) : Calls Tryd.prog 34 #[.int .u8 2, .int .u8 1] w fun e w' => e = .returned (.bool false) ∧ w = w' := by
  go_enter Tryd.func34, Tryd.ntmps34
  go_wp2_with fail
  go_ret
  exact ⟨rfl, rfl⟩
theorem has3 (w : World) : Calls Tryd.prog 34 #[.int .u8 3, .int .u8 1] w fun e w' => e = .returned (.bool true) ∧ w = w' := by
  go_enter Tryd.func34, Tryd.ntmps34
  go_wp2_with fail
  go_ret
  exact ⟨rfl, rfl⟩
def Flag (fl : Int) (cm : Bool) : Prop := (fl = 0 ∧ cm = false) ∨ (fl = 1 ∧ cm = true) ∨ (fl = 2 ∧ cm = false) ∨ (fl = 3 ∧ cm = true)
theorem has (fl : Int) (cm : Bool) (h : Flag fl cm) (w : World) : Calls Tryd.prog 34 #[.int .u8 fl, .int .u8 1] w fun e w' => e = .returned (.bool cm) ∧ w = w' := by
  rcases h with ⟨rfl, rfl⟩ | ⟨rfl, rfl⟩ | ⟨rfl, rfl⟩ | ⟨rfl, rfl⟩
  · exact has0 w
  · exact has1 w
  · exact has2 w
  · exact has3 w
theorem sf8 (w : World) : Calls Tryd.prog 40 #[.int .u8 8] w fun e w' => e = .returned (.int .u64 1024) ∧ w = w' := by
  go_enter Tryd.func40, Tryd.ntmps40
  go_wp2_with fail
  go_ret
  exact ⟨rfl, rfl⟩
theorem hasJ (w : World) : Calls Tryd.prog 35 #[.int .u64 0, .int .u64 1024] w fun e w' => e = .returned (.bool false) ∧ w = w' := by
  go_enter Tryd.func35, Tryd.ntmps35
  go_wp2_with fail
  go_ret
  exact ⟨rfl, rfl⟩
def SomeBB (w : World) (e : Ending) (w' : World) : Prop := ∃ r : Bool, e = .returned (.bool r) ∧ Below w.heap.size w w'
theorem hasS (pf : Int) (hpf : pf = 0 ∨ pf = 8) (w : World) : Calls Tryd.prog 41 #[.int .u16 pf, .int .u16 8] w fun e w' => e = .returned (.bool (decide (pf = 8))) ∧ w = w' := by
  rcases hpf with rfl | rfl
  all_goals
    go_enter Tryd.func41, Tryd.ntmps41
    go_wp2_with fail
    go_ret
    exact ⟨rfl, rfl⟩
set_option maxRecDepth 100000 in
set_option maxHeartbeats 8000000 in
theorem needLow (b kb : Nat) (ts : Bool) (ex pf : Int) (hpf : pf = 0 ∨ pf = 8) (w : World) (h : PB w b ts ex pf) (hk : w.cell? ⟨kb, 1, none⟩ = some (.int .u32 0)) :
    Calls Tryd.prog 32 #[.pointer (some ⟨b, 0, none⟩), .pointer (some ⟨kb, 0, none⟩)] w (SomeBB w) := by
  obtain ⟨gg, cap, h1, h2, h3, h4, h5, h6⟩ := h
  have lb : b < w.heap.size := World.block_lt_of_cell? _ _ h1
  have HP := Lib.hid hpf
  clear h2 h3 hpf
  go_enter Tryd.func32, Tryd.ntmps32
  go_wp2_with fail
  go_quiet (fail)
  obtain ⟨W2, hnew⟩ : ∃ W, W = w.drewN nq := ⟨_, rfl⟩
  have j1 : W2.cell? ⟨b, 23, none⟩ = some (.int .u64 0) := by rw [hnew]; exact h1
  have j4 : W2.cell? ⟨b, 106, none⟩ = some (.slice (some ⟨gg, 0, none⟩) 1 cap) := by rw [hnew]; exact h4
  have j5 : W2.cell? ⟨gg, 7, none⟩ = some (.int .u16 pf) := by rw [hnew]; exact h5
  have j6 : W2.cell? ⟨gg, 8, none⟩ = some (.int .u8 8) := by rw [hnew]; exact h6
  have HB := Lib.hid (show Below w.heap.size w W2 from by rw [hnew]; exact below_drewN (Below.refl _ _) _)
  rw [← hnew]
  clear hnew h1 h4 h5 h6 hk
  go_wp2_with fail
  go_quiet ((first | (go_at_call 40; exact Calls.quiet_of_same ((sf8 _).mono fun _ _ h => ⟨h.1, h.2.symm⟩)) | (go_at_call 35; exact Calls.quiet_of_same ((hasJ _).mono fun _ _ h => ⟨h.1, h.2.symm⟩)) | (go_at_call 41; exact Calls.quiet_of_same ((hasS _ HP.out _).mono fun _ _ h => ⟨h.1, h.2.symm⟩))))
  go_wp2_with fail
  go_ret
  exact ⟨_, rfl, below_drewN HB.out _⟩
set_option maxRecDepth 100000 in
set_option maxHeartbeats 8000000 in
theorem apSEp (c k b kb D n : Nat) (iv : Value) (hiv : iv = .nilIface ∨ ∃ q, iv = .iface 238 (.pointer (some ⟨q, 0, none⟩))) (fl : Int) (cm x y us : Bool) (lo : Bool) (pf : Int) (hpf : pf = 0 ∨ pf = 8) (w : World) (hf : Flag fl cm) (hp : PB w b true 1 pf) (hc : CX w c k us lo) (hn1 : n ≤ 4096) (hn : 0 < n) :
    Calls Tryd.prog 26 #[.pointer (some ⟨c, 0, none⟩), .pointer (some ⟨b, 0, none⟩), .agg #[.pointer none, .iface 235 (.pointer (some ⟨kb, 0, none⟩)), .int .i32 0, .nilIface, .int .i32 0, iv, .int .i32 0, .slice (some ⟨D, 0, none⟩) n n, .int .i32 0, .int .i32 0, .int .u8 1, .int .u8 fl], .agg #[.bool x, .bool y, .bool false]] w fun e w' => e = .returned (.agg #[.pointer none, .slice (some ⟨D, 0, none⟩) n n, .slice none 0 0, .bool false, .bool true, .bool false, .bool false, .bool false, .bool cm]) ∧ Below w.heap.size w w' := by
  have n0 : (n == 0) = false := by simp; omega
  have n0' : ((n : Int) == 0) = false := by simp; omega
  have n1 : decide (0 < n) = true := by simpa using hn
  have n1' : decide (0 < (n : Int)) = true := by simp; omega
  have HP := Lib.hid hp
  have HF := Lib.hid (has fl cm hf)
  obtain ⟨gg, cap, h23, h26, h32, h106, h7, h8⟩ := hp
  obtain ⟨c2, k9, k10⟩ := hc
  have lb : b < w.heap.size := World.block_lt_of_cell? _ _ h23
  have lc : c < w.heap.size := World.block_lt_of_cell? _ _ c2
  have lk : k < w.heap.size := World.block_lt_of_cell? _ _ k9
  have lb1 : b < w.heap.size + 1 := by omega
  have lc1 : c < w.heap.size + 1 := by omega
  have lk1 : k < w.heap.size + 1 := by omega
  have lb2 : b < w.heap.size + 1 + 1 := by omega
  have lc2 : c < w.heap.size + 1 + 1 := by omega
  have lk2 : k < w.heap.size + 1 + 1 := by omega
  clear h106 h7 h8 hf
  rcases hiv with rfl | ⟨q, rfl⟩
  all_goals
    go_enter Tryd.func26, Tryd.ntmps26
    go_wp2_with (first | (go_at_call 33; refine (isMethod _).mono ?_; rintro e w' ⟨rfl, rfl⟩) | (go_at_call 34; refine (HF.out _).mono ?_; rintro e w' ⟨rfl, rfl⟩))
    all_goals
      exact bodyPost_ret (v := .agg #[.pointer none, .slice (some ⟨D, 0, none⟩) n n, .slice none 0 0, .bool false, .bool true, .bool false, .bool false, .bool false, .bool cm]) (by simp [results, Tryd.results26, go_sem, *]) rfl ⟨rfl, (by repeat (first | with_reducible exact Below.refl _ _ | (with_reducible refine Below.drew ?_) | (with_reducible refine Below.alloc ?_ (by simp; try omega) _) | (with_reducible refine Below.setCell ?_ (by simp; try omega) _)))⟩
set_option maxRecDepth 100000 in
set_option maxHeartbeats 8000000 in
theorem apSEz (c k b kb D n : Nat) (iv : Value) (hiv : iv = .nilIface ∨ ∃ q, iv = .iface 238 (.pointer (some ⟨q, 0, none⟩))) (fl : Int) (cm x y us : Bool) (lo : Bool) (pf : Int) (hpf : pf = 0 ∨ pf = 8) (w : World) (hf : Flag fl cm) (hp : PB w b true 1 pf) (hc : CX w c k us lo) (hn1 : n ≤ 4096) (hn : n = 0) :
    Calls Tryd.prog 26 #[.pointer (some ⟨c, 0, none⟩), .pointer (some ⟨b, 0, none⟩), .agg #[.pointer none, .iface 235 (.pointer (some ⟨kb, 0, none⟩)), .int .i32 0, .nilIface, .int .i32 0, iv, .int .i32 0, .slice (some ⟨D, 0, none⟩) n n, .int .i32 0, .int .i32 0, .int .u8 1, .int .u8 fl], .agg #[.bool x, .bool y, .bool false]] w fun e w' => e = .returned (.agg #[.pointer none, .slice (some ⟨D, 0, none⟩) n n, .slice none 0 0, .bool false, .bool true, .bool false, .bool false, .bool false, .bool false]) ∧ Below w.heap.size w w' := by
  subst hn
  have HP := Lib.hid hp
  have HF := Lib.hid (has fl cm hf)
  obtain ⟨gg, cap, h23, h26, h32, h106, h7, h8⟩ := hp
  obtain ⟨c2, k9, k10⟩ := hc
  have lb : b < w.heap.size := World.block_lt_of_cell? _ _ h23
  have lc : c < w.heap.size := World.block_lt_of_cell? _ _ c2
  have lk : k < w.heap.size := World.block_lt_of_cell? _ _ k9
  have lb1 : b < w.heap.size + 1 := by omega
  have lc1 : c < w.heap.size + 1 := by omega
  have lk1 : k < w.heap.size + 1 := by omega
  have lb2 : b < w.heap.size + 1 + 1 := by omega
  have lc2 : c < w.heap.size + 1 + 1 := by omega
  have lk2 : k < w.heap.size + 1 + 1 := by omega
  clear h106 h7 h8 hf
  rcases hiv with rfl | ⟨q, rfl⟩
  all_goals
    go_enter Tryd.func26, Tryd.ntmps26
    go_wp2_with (first | (go_at_call 33; refine (isMethod _).mono ?_; rintro e w' ⟨rfl, rfl⟩) | (go_at_call 34; refine (HF.out _).mono ?_; rintro e w' ⟨rfl, rfl⟩))
    all_goals
      exact bodyPost_ret (v := .agg #[.pointer none, .slice (some ⟨D, 0, none⟩) 0 0, .slice none 0 0, .bool false, .bool true, .bool false, .bool false, .bool false, .bool false]) (by simp [results, Tryd.results26, go_sem, *]) rfl ⟨rfl, (by repeat (first | with_reducible exact Below.refl _ _ | (with_reducible refine Below.drew ?_) | (with_reducible refine Below.alloc ?_ (by simp; try omega) _) | (with_reducible refine Below.setCell ?_ (by simp; try omega) _)))⟩
set_option maxRecDepth 100000 in
set_option maxHeartbeats 8000000 in
theorem apST1p (c k b kb D n : Nat) (iv : Value) (hiv : iv = .nilIface ∨ ∃ q, iv = .iface 238 (.pointer (some ⟨q, 0, none⟩))) (fl : Int) (cm x y us : Bool) (pf : Int) (hpf : pf = 0 ∨ pf = 8) (w : World) (hf : Flag fl cm) (hp : PB w b true 0 pf) (hc : CX w c k us true) (hn1 : n ≤ 4096) (hn : 0 < n) :
    Calls Tryd.prog 26 #[.pointer (some ⟨c, 0, none⟩), .pointer (some ⟨b, 0, none⟩), .agg #[.pointer none, .iface 235 (.pointer (some ⟨kb, 0, none⟩)), .int .i32 0, .nilIface, .int .i32 0, iv, .int .i32 0, .slice (some ⟨D, 0, none⟩) n n, .int .i32 0, .int .i32 0, .int .u8 1, .int .u8 fl], .agg #[.bool x, .bool y, .bool false]] w fun e w' => e = .returned (.agg #[.pointer none, .slice none 0 0, .slice (some ⟨D, 0, none⟩) n n, .bool false, .bool true, .bool false, .bool false, .bool false, .bool cm]) ∧ Below w.heap.size w w' := by
  have n0 : (n == 0) = false := by simp; omega
  have n0' : ((n : Int) == 0) = false := by simp; omega
  have n1 : decide (0 < n) = true := by simpa using hn
  have n1' : decide (0 < (n : Int)) = true := by simp; omega
  have HP := Lib.hid hp
  have HF := Lib.hid (has fl cm hf)
  obtain ⟨gg, cap, h23, h26, h32, h106, h7, h8⟩ := hp
  obtain ⟨c2, k9, k10⟩ := hc
  have lb : b < w.heap.size := World.block_lt_of_cell? _ _ h23
  have lc : c < w.heap.size := World.block_lt_of_cell? _ _ c2
  have lk : k < w.heap.size := World.block_lt_of_cell? _ _ k9
  have lb1 : b < w.heap.size + 1 := by omega
  have lc1 : c < w.heap.size + 1 := by omega
  have lk1 : k < w.heap.size + 1 := by omega
  have lb2 : b < w.heap.size + 1 + 1 := by omega
  have lc2 : c < w.heap.size + 1 + 1 := by omega
  have lk2 : k < w.heap.size + 1 + 1 := by omega
  clear h106 h7 h8 hf
  rcases hiv with rfl | ⟨q, rfl⟩
  all_goals
    go_enter Tryd.func26, Tryd.ntmps26
    go_wp2_with (first | (go_at_call 33; refine (isMethod _).mono ?_; rintro e w' ⟨rfl, rfl⟩) | (go_at_call 34; refine (HF.out _).mono ?_; rintro e w' ⟨rfl, rfl⟩))
    all_goals
      exact bodyPost_ret (v := .agg #[.pointer none, .slice none 0 0, .slice (some ⟨D, 0, none⟩) n n, .bool false, .bool true, .bool false, .bool false, .bool false, .bool cm]) (by simp [results, Tryd.results26, go_sem, *]) rfl ⟨rfl, (by repeat (first | with_reducible exact Below.refl _ _ | (with_reducible refine Below.drew ?_) | (with_reducible refine Below.alloc ?_ (by simp; try omega) _) | (with_reducible refine Below.setCell ?_ (by simp; try omega) _)))⟩
set_option maxRecDepth 100000 in
set_option maxHeartbeats 8000000 in
theorem apST1z (c k b kb D n : Nat) (iv : Value) (hiv : iv = .nilIface ∨ ∃ q, iv = .iface 238 (.pointer (some ⟨q, 0, none⟩))) (fl : Int) (cm x y us : Bool) (pf : Int) (hpf : pf = 0 ∨ pf = 8) (w : World) (hf : Flag fl cm) (hp : PB w b true 0 pf) (hc : CX w c k us true) (hn1 : n ≤ 4096) (hn : n = 0) :
    Calls Tryd.prog 26 #[.pointer (some ⟨c, 0, none⟩), .pointer (some ⟨b, 0, none⟩), .agg #[.pointer none, .iface 235 (.pointer (some ⟨kb, 0, none⟩)), .int .i32 0, .nilIface, .int .i32 0, iv, .int .i32 0, .slice (some ⟨D, 0, none⟩) n n, .int .i32 0, .int .i32 0, .int .u8 1, .int .u8 fl], .agg #[.bool x, .bool y, .bool false]] w fun e w' => e = .returned (.agg #[.pointer none, .slice none 0 0, .slice (some ⟨D, 0, none⟩) n n, .bool false, .bool true, .bool false, .bool false, .bool false, .bool false]) ∧ Below w.heap.size w w' := by
  subst hn
  have HP := Lib.hid hp
  have HF := Lib.hid (has fl cm hf)
  obtain ⟨gg, cap, h23, h26, h32, h106, h7, h8⟩ := hp
  obtain ⟨c2, k9, k10⟩ := hc
  have lb : b < w.heap.size := World.block_lt_of_cell? _ _ h23
  have lc : c < w.heap.size := World.block_lt_of_cell? _ _ c2
  have lk : k < w.heap.size := World.block_lt_of_cell? _ _ k9
  have lb1 : b < w.heap.size + 1 := by omega
  have lc1 : c < w.heap.size + 1 := by omega
  have lk1 : k < w.heap.size + 1 := by omega
  have lb2 : b < w.heap.size + 1 + 1 := by omega
  have lc2 : c < w.heap.size + 1 + 1 := by omega
  have lk2 : k < w.heap.size + 1 + 1 := by omega
  clear h106 h7 h8 hf
  rcases hiv with rfl | ⟨q, rfl⟩
  all_goals
    go_enter Tryd.func26, Tryd.ntmps26
    go_wp2_with (first | (go_at_call 33; refine (isMethod _).mono ?_; rintro e w' ⟨rfl, rfl⟩) | (go_at_call 34; refine (HF.out _).mono ?_; rintro e w' ⟨rfl, rfl⟩))
    all_goals
      exact bodyPost_ret (v := .agg #[.pointer none, .slice none 0 0, .slice (some ⟨D, 0, none⟩) 0 0, .bool false, .bool true, .bool false, .bool false, .bool false, .bool false]) (by simp [results, Tryd.results26, go_sem, *]) rfl ⟨rfl, (by repeat (first | with_reducible exact Below.refl _ _ | (with_reducible refine Below.drew ?_) | (with_reducible refine Below.alloc ?_ (by simp; try omega) _) | (with_reducible refine Below.setCell ?_ (by simp; try omega) _)))⟩
set_option maxRecDepth 100000 in
set_option maxHeartbeats 8000000 in
theorem apST2p (c k b kb D n : Nat) (iv : Value) (hiv : iv = .nilIface ∨ ∃ q, iv = .iface 238 (.pointer (some ⟨q, 0, none⟩))) (fl : Int) (cm x y us : Bool) (ex : Int) (pf : Int) (hpf : pf = 0 ∨ pf = 8) (w : World) (hf : Flag fl cm) (hp : PB w b false ex pf) (hc : CX w c k us true) (hn1 : n ≤ 4096) (hn : 0 < n) :
    Calls Tryd.prog 26 #[.pointer (some ⟨c, 0, none⟩), .pointer (some ⟨b, 0, none⟩), .agg #[.pointer none, .iface 235 (.pointer (some ⟨kb, 0, none⟩)), .int .i32 0, .nilIface, .int .i32 0, iv, .int .i32 0, .slice (some ⟨D, 0, none⟩) n n, .int .i32 0, .int .i32 0, .int .u8 1, .int .u8 fl], .agg #[.bool x, .bool y, .bool false]] w fun e w' => e = .returned (.agg #[.pointer none, .slice none 0 0, .slice (some ⟨D, 0, none⟩) n n, .bool false, .bool true, .bool false, .bool false, .bool false, .bool cm]) ∧ Below w.heap.size w w' := by
  have n0 : (n == 0) = false := by simp; omega
  have n0' : ((n : Int) == 0) = false := by simp; omega
  have n1 : decide (0 < n) = true := by simpa using hn
  have n1' : decide (0 < (n : Int)) = true := by simp; omega
  have HP := Lib.hid hp
  have HF := Lib.hid (has fl cm hf)
  obtain ⟨gg, cap, h23, h26, h32, h106, h7, h8⟩ := hp
  obtain ⟨c2, k9, k10⟩ := hc
  have lb : b < w.heap.size := World.block_lt_of_cell? _ _ h23
  have lc : c < w.heap.size := World.block_lt_of_cell? _ _ c2
  have lk : k < w.heap.size := World.block_lt_of_cell? _ _ k9
  have lb1 : b < w.heap.size + 1 := by omega
  have lc1 : c < w.heap.size + 1 := by omega
  have lk1 : k < w.heap.size + 1 := by omega
  have lb2 : b < w.heap.size + 1 + 1 := by omega
  have lc2 : c < w.heap.size + 1 + 1 := by omega
  have lk2 : k < w.heap.size + 1 + 1 := by omega
  clear h106 h7 h8 hf
  rcases hiv with rfl | ⟨q, rfl⟩
  all_goals
    go_enter Tryd.func26, Tryd.ntmps26
    go_wp2_with (first | (go_at_call 33; refine (isMethod _).mono ?_; rintro e w' ⟨rfl, rfl⟩) | (go_at_call 34; refine (HF.out _).mono ?_; rintro e w' ⟨rfl, rfl⟩))
    all_goals
      exact bodyPost_ret (v := .agg #[.pointer none, .slice none 0 0, .slice (some ⟨D, 0, none⟩) n n, .bool false, .bool true, .bool false, .bool false, .bool false, .bool cm]) (by simp [results, Tryd.results26, go_sem, *]) rfl ⟨rfl, (by repeat (first | with_reducible exact Below.refl _ _ | (with_reducible refine Below.drew ?_) | (with_reducible refine Below.alloc ?_ (by simp; try omega) _) | (with_reducible refine Below.setCell ?_ (by simp; try omega) _)))⟩
set_option maxRecDepth 100000 in
set_option maxHeartbeats 8000000 in
theorem apST2z (c k b kb D n : Nat) (iv : Value) (hiv : iv = .nilIface ∨ ∃ q, iv = .iface 238 (.pointer (some ⟨q, 0, none⟩))) (fl : Int) (cm x y us : Bool) (ex : Int) (pf : Int) (hpf : pf = 0 ∨ pf = 8) (w : World) (hf : Flag fl cm) (hp : PB w b false ex pf) (hc : CX w c k us true) (hn1 : n ≤ 4096) (hn : n = 0) :
    Calls Tryd.prog 26 #[.pointer (some ⟨c, 0, none⟩), .pointer (some ⟨b, 0, none⟩), .agg #[.pointer none, .iface 235 (.pointer (some ⟨kb, 0, none⟩)), .int .i32 0, .nilIface, .int .i32 0, iv, .int .i32 0, .slice (some ⟨D, 0, none⟩) n n, .int .i32 0, .int .i32 0, .int .u8 1, .int .u8 fl], .agg #[.bool x, .bool y, .bool false]] w fun e w' => e = .returned (.agg #[.pointer none, .slice none 0 0, .slice (some ⟨D, 0, none⟩) n n, .bool false, .bool true, .bool false, .bool false, .bool false, .bool false]) ∧ Below w.heap.size w w' := by
  subst hn
  have HP := Lib.hid hp
  have HF := Lib.hid (has fl cm hf)
  obtain ⟨gg, cap, h23, h26, h32, h106, h7, h8⟩ := hp
  obtain ⟨c2, k9, k10⟩ := hc
  have lb : b < w.heap.size := World.block_lt_of_cell? _ _ h23
  have lc : c < w.heap.size := World.block_lt_of_cell? _ _ c2
  have lk : k < w.heap.size := World.block_lt_of_cell? _ _ k9
  have lb1 : b < w.heap.size + 1 := by omega
  have lc1 : c < w.heap.size + 1 := by omega
  have lk1 : k < w.heap.size + 1 := by omega
  have lb2 : b < w.heap.size + 1 + 1 := by omega
  have lc2 : c < w.heap.size + 1 + 1 := by omega
  have lk2 : k < w.heap.size + 1 + 1 := by omega
  clear h106 h7 h8 hf
  rcases hiv with rfl | ⟨q, rfl⟩
  all_goals
    go_enter Tryd.func26, Tryd.ntmps26
    go_wp2_with (first | (go_at_call 33; refine (isMethod _).mono ?_; rintro e w' ⟨rfl, rfl⟩) | (go_at_call 34; refine (HF.out _).mono ?_; rintro e w' ⟨rfl, rfl⟩))
    all_goals
      exact bodyPost_ret (v := .agg #[.pointer none, .slice none 0 0, .slice (some ⟨D, 0, none⟩) 0 0, .bool false, .bool true, .bool false, .bool false, .bool false, .bool false]) (by simp [results, Tryd.results26, go_sem, *]) rfl ⟨rfl, (by repeat (first | with_reducible exact Below.refl _ _ | (with_reducible refine Below.drew ?_) | (with_reducible refine Below.alloc ?_ (by simp; try omega) _) | (with_reducible refine Below.setCell ?_ (by simp; try omega) _)))⟩
set_option maxRecDepth 100000 in
set_option maxHeartbeats 8000000 in
theorem apSN1 (c k b kb D n : Nat) (iv : Value) (hiv : iv = .nilIface ∨ ∃ q, iv = .iface 238 (.pointer (some ⟨q, 0, none⟩))) (fl : Int) (cm x y us : Bool) (pf : Int) (hpf : pf = 0 ∨ pf = 8) (w : World) (hf : Flag fl cm) (hp : PB w b true 0 pf) (hc : CX w c k us false) (hn1 : n ≤ 4096) :
    Calls Tryd.prog 26 #[.pointer (some ⟨c, 0, none⟩), .pointer (some ⟨b, 0, none⟩), .agg #[.pointer none, .iface 235 (.pointer (some ⟨kb, 0, none⟩)), .int .i32 0, .nilIface, .int .i32 0, iv, .int .i32 0, .slice (some ⟨D, 0, none⟩) n n, .int .i32 0, .int .i32 0, .int .u8 1, .int .u8 fl], .agg #[.bool x, .bool y, .bool false]] w fun e w' => e = .returned (.agg #[.pointer none, .slice none 0 0, .slice none 0 0, .bool false, .bool true, .bool false, .bool false, .bool false, .bool false]) ∧ Below w.heap.size w w' := by
  have HP := Lib.hid hp
  have HF := Lib.hid (has fl cm hf)
  obtain ⟨gg, cap, h23, h26, h32, h106, h7, h8⟩ := hp
  obtain ⟨c2, k9, k10⟩ := hc
  have lb : b < w.heap.size := World.block_lt_of_cell? _ _ h23
  have lc : c < w.heap.size := World.block_lt_of_cell? _ _ c2
  have lk : k < w.heap.size := World.block_lt_of_cell? _ _ k9
  have lb1 : b < w.heap.size + 1 := by omega
  have lc1 : c < w.heap.size + 1 := by omega
  have lk1 : k < w.heap.size + 1 := by omega
  have lb2 : b < w.heap.size + 1 + 1 := by omega
  have lc2 : c < w.heap.size + 1 + 1 := by omega
  have lk2 : k < w.heap.size + 1 + 1 := by omega
  clear h106 h7 h8 hf
  rcases hiv with rfl | ⟨q, rfl⟩
  all_goals
    go_enter Tryd.func26, Tryd.ntmps26
    go_wp2_with (first | (go_at_call 33; refine (isMethod _).mono ?_; rintro e w' ⟨rfl, rfl⟩) | (go_at_call 34; refine (HF.out _).mono ?_; rintro e w' ⟨rfl, rfl⟩))
    all_goals
      exact bodyPost_ret (v := .agg #[.pointer none, .slice none 0 0, .slice none 0 0, .bool false, .bool true, .bool false, .bool false, .bool false, .bool false]) (by simp [results, Tryd.results26, go_sem, *]) rfl ⟨rfl, (by repeat (first | with_reducible exact Below.refl _ _ | (with_reducible refine Below.drew ?_) | (with_reducible refine Below.alloc ?_ (by simp; try omega) _) | (with_reducible refine Below.setCell ?_ (by simp; try omega) _)))⟩
set_option maxRecDepth 100000 in
set_option maxHeartbeats 8000000 in
theorem apSN2 (c k b kb D n : Nat) (iv : Value) (hiv : iv = .nilIface ∨ ∃ q, iv = .iface 238 (.pointer (some ⟨q, 0, none⟩))) (fl : Int) (cm x y us : Bool) (ex : Int) (pf : Int) (hpf : pf = 0 ∨ pf = 8) (w : World) (hf : Flag fl cm) (hp : PB w b false ex pf) (hc : CX w c k us false) (hn1 : n ≤ 4096) :
    Calls Tryd.prog 26 #[.pointer (some ⟨c, 0, none⟩), .pointer (some ⟨b, 0, none⟩), .agg #[.pointer none, .iface 235 (.pointer (some ⟨kb, 0, none⟩)), .int .i32 0, .nilIface, .int .i32 0, iv, .int .i32 0, .slice (some ⟨D, 0, none⟩) n n, .int .i32 0, .int .i32 0, .int .u8 1, .int .u8 fl], .agg #[.bool x, .bool y, .bool false]] w fun e w' => e = .returned (.agg #[.pointer none, .slice none 0 0, .slice none 0 0, .bool false, .bool true, .bool false, .bool false, .bool false, .bool false]) ∧ Below w.heap.size w w' := by
  have HP := Lib.hid hp
  have HF := Lib.hid (has fl cm hf)
  obtain ⟨gg, cap, h23, h26, h32, h106, h7, h8⟩ := hp
  obtain ⟨c2, k9, k10⟩ := hc
  have lb : b < w.heap.size := World.block_lt_of_cell? _ _ h23
  have lc : c < w.heap.size := World.block_lt_of_cell? _ _ c2
  have lk : k < w.heap.size := World.block_lt_of_cell? _ _ k9
  have lb1 : b < w.heap.size + 1 := by omega
  have lc1 : c < w.heap.size + 1 := by omega
  have lk1 : k < w.heap.size + 1 := by omega
  have lb2 : b < w.heap.size + 1 + 1 := by omega
  have lc2 : c < w.heap.size + 1 + 1 := by omega
  have lk2 : k < w.heap.size + 1 + 1 := by omega
  clear h106 h7 h8 hf
  rcases hiv with rfl | ⟨q, rfl⟩
  all_goals
    go_enter Tryd.func26, Tryd.ntmps26
    go_wp2_with (first | (go_at_call 33; refine (isMethod _).mono ?_; rintro e w' ⟨rfl, rfl⟩) | (go_at_call 34; refine (HF.out _).mono ?_; rintro e w' ⟨rfl, rfl⟩))
    all_goals
      exact bodyPost_ret (v := .agg #[.pointer none, .slice none 0 0, .slice none 0 0, .bool false, .bool true, .bool false, .bool false, .bool false, .bool false]) (by simp [results, Tryd.results26, go_sem, *]) rfl ⟨rfl, (by repeat (first | with_reducible exact Below.refl _ _ | (with_reducible refine Below.drew ?_) | (with_reducible refine Below.alloc ?_ (by simp; try omega) _) | (with_reducible refine Below.setCell ?_ (by simp; try omega) _)))⟩
set_option maxRecDepth 100000 in
set_option maxHeartbeats 8000000 in
theorem apPEp (c k b kb D n : Nat) (iv : Value) (hiv : iv = .nilIface ∨ ∃ q, iv = .iface 238 (.pointer (some ⟨q, 0, none⟩))) (fl : Int) (cm x y us : Bool) (lo : Bool) (pf : Int) (hpf : pf = 0 ∨ pf = 8) (w : World) (hf : Flag fl cm) (hp : PB w b true 1 pf) (hc : CX w c k us lo) (hk : w.cell? ⟨kb, 1, none⟩ = some (.int .u32 0)) (hn1 : n ≤ 4096) (hn : 0 < n) :
    Calls Tryd.prog 26 #[.pointer (some ⟨c, 0, none⟩), .pointer (some ⟨b, 0, none⟩), .agg #[.pointer none, .iface 229 (.pointer (some ⟨kb, 0, none⟩)), .int .i32 0, .nilIface, .int .i32 0, iv, .int .i32 0, .slice (some ⟨D, 0, none⟩) n n, .int .i32 0, .int .i32 0, .int .u8 1, .int .u8 fl], .agg #[.bool x, .bool y, .bool false]] w fun e w' => e = .returned (.agg #[.pointer (some ⟨kb, 0, none⟩), .slice (some ⟨D, 0, none⟩) n n, .slice none 0 0, .bool false, .bool true, .bool false, .bool false, .bool false, .bool cm]) ∧ Below w.heap.size w w' := by
  have n0 : (n == 0) = false := by simp; omega
  have n0' : ((n : Int) == 0) = false := by simp; omega
  have n1 : decide (0 < n) = true := by simpa using hn
  have n1' : decide (0 < (n : Int)) = true := by simp; omega
  have HP := Lib.hid hp
  have HF := Lib.hid (has fl cm hf)
  obtain ⟨gg, cap, h23, h26, h32, h106, h7, h8⟩ := hp
  obtain ⟨c2, k9, k10⟩ := hc
  have lb : b < w.heap.size := World.block_lt_of_cell? _ _ h23
  have lc : c < w.heap.size := World.block_lt_of_cell? _ _ c2
  have lk : k < w.heap.size := World.block_lt_of_cell? _ _ k9
  have lb1 : b < w.heap.size + 1 := by omega
  have lc1 : c < w.heap.size + 1 := by omega
  have lk1 : k < w.heap.size + 1 := by omega
  have lb2 : b < w.heap.size + 1 + 1 := by omega
  have lc2 : c < w.heap.size + 1 + 1 := by omega
  have lk2 : k < w.heap.size + 1 + 1 := by omega
  clear h106 h7 h8 hf
  rcases hiv with rfl | ⟨q, rfl⟩
  all_goals
    have HN := Lib.hid (fun (W : World) (hW : Below w.heap.size w W) => needLow b kb true 1 pf hpf W (HP.out.keep hW) (kept hW hk))
    clear hk
    go_enter Tryd.func26, Tryd.ntmps26
    go_wp2_with fail
    refine (HN.out _ (by repeat (first | with_reducible exact Below.refl _ _ | (with_reducible refine Below.drew ?_) | (with_reducible refine Below.alloc ?_ (by simp; try omega) _) | (with_reducible refine Below.setCell ?_ (by simp; try omega) _)))).mono ?_
    rintro e w1 ⟨r, rfl, hb1⟩
    have HB := Lib.hid (show Below w.heap.size w w1 from ((by repeat (first | with_reducible exact Below.refl _ _ | (with_reducible refine Below.drew ?_) | (with_reducible refine Below.alloc ?_ (by simp; try omega) _) | (with_reducible refine Below.setCell ?_ (by simp; try omega) _))) : Below w.heap.size w _).trans (hb1.mono (by simp; omega)))
    have q23 := kept HB.out h23
    have q26 := kept HB.out h26
    have q32 := kept HB.out h32
    have qc2 := kept HB.out c2
    have qk9 := kept HB.out k9
    have qk10 := kept HB.out k10
    have a0 : w1.cell? ⟨w.heap.size, 0, none⟩ = some (.pointer none) := kept hb1 (by simp [go_sem])
    have a1 : w1.cell? ⟨w.heap.size, 1, none⟩ = some (.iface 229 (.pointer (some ⟨kb, 0, none⟩))) := kept hb1 (by simp [go_sem])
    have a2 : w1.cell? ⟨w.heap.size, 2, none⟩ = some (.int .i32 0) := kept hb1 (by simp [go_sem])
    have a3 : w1.cell? ⟨w.heap.size, 3, none⟩ = some .nilIface := kept hb1 (by simp [go_sem])
    have a4 : w1.cell? ⟨w.heap.size, 4, none⟩ = some (.int .i32 0) := kept hb1 (by simp [go_sem])
    have a5 := kept (b := w.heap.size) (o := 5) hb1 (by simp [go_sem]; rfl)
    have a6 : w1.cell? ⟨w.heap.size, 6, none⟩ = some (.int .i32 0) := kept hb1 (by simp [go_sem])
    have a7 : w1.cell? ⟨w.heap.size, 7, none⟩ = some (.slice (some ⟨D, 0, none⟩) n n) := kept hb1 (by simp [go_sem])
    have a8 : w1.cell? ⟨w.heap.size, 8, none⟩ = some (.int .i32 0) := kept hb1 (by simp [go_sem])
    have a9 : w1.cell? ⟨w.heap.size, 9, none⟩ = some (.int .i32 0) := kept hb1 (by simp [go_sem])
    have a10 : w1.cell? ⟨w.heap.size, 10, none⟩ = some (.int .u8 1) := kept hb1 (by simp [go_sem])
    have a11 : w1.cell? ⟨w.heap.size, 11, none⟩ = some (.int .u8 fl) := kept hb1 (by simp [go_sem])
    have b0 : w1.cell? ⟨w.heap.size + 1, 0, none⟩ = some (.bool x) := kept hb1 (by simp [go_sem])
    have b1 : w1.cell? ⟨w.heap.size + 1, 1, none⟩ = some (.bool y) := kept hb1 (by simp [go_sem])
    have b2 : w1.cell? ⟨w.heap.size + 1, 2, none⟩ = some (.bool false) := kept hb1 (by simp [go_sem])
    have d0 : w1.cell? ⟨w.heap.size + 1 + 1, 0, none⟩ = some (.pointer (some ⟨kb, 0, none⟩)) := kept hb1 (by simp [go_sem])
    have e0 : w1.frozen? ⟨w.heap.size + 1 + 1, 0, none⟩ = false := keptF hb1 (o := 0) (v := (.pointer (some ⟨kb, 0, none⟩))) (by simp [go_sem]) (by simp [go_sem])
    have d1 : w1.cell? ⟨w.heap.size + 1 + 1, 1, none⟩ = some (.slice none 0 0) := kept hb1 (by simp [go_sem])
    have e1 : w1.frozen? ⟨w.heap.size + 1 + 1, 1, none⟩ = false := keptF hb1 (o := 1) (v := (.slice none 0 0)) (by simp [go_sem]) (by simp [go_sem])
    have d2 : w1.cell? ⟨w.heap.size + 1 + 1, 2, none⟩ = some (.slice none 0 0) := kept hb1 (by simp [go_sem])
    have e2 : w1.frozen? ⟨w.heap.size + 1 + 1, 2, none⟩ = false := keptF hb1 (o := 2) (v := (.slice none 0 0)) (by simp [go_sem]) (by simp [go_sem])
    have d3 : w1.cell? ⟨w.heap.size + 1 + 1, 3, none⟩ = some (.bool false) := kept hb1 (by simp [go_sem])
    have e3 : w1.frozen? ⟨w.heap.size + 1 + 1, 3, none⟩ = false := keptF hb1 (o := 3) (v := (.bool false)) (by simp [go_sem]) (by simp [go_sem])
    have d4 : w1.cell? ⟨w.heap.size + 1 + 1, 4, none⟩ = some (.bool false) := kept hb1 (by simp [go_sem])
    have e4 : w1.frozen? ⟨w.heap.size + 1 + 1, 4, none⟩ = false := keptF hb1 (o := 4) (v := (.bool false)) (by simp [go_sem]) (by simp [go_sem])
    have d5 : w1.cell? ⟨w.heap.size + 1 + 1, 5, none⟩ = some (.bool false) := kept hb1 (by simp [go_sem])
    have e5 : w1.frozen? ⟨w.heap.size + 1 + 1, 5, none⟩ = false := keptF hb1 (o := 5) (v := (.bool false)) (by simp [go_sem]) (by simp [go_sem])
    have d6 : w1.cell? ⟨w.heap.size + 1 + 1, 6, none⟩ = some (.bool false) := kept hb1 (by simp [go_sem])
    have e6 : w1.frozen? ⟨w.heap.size + 1 + 1, 6, none⟩ = false := keptF hb1 (o := 6) (v := (.bool false)) (by simp [go_sem]) (by simp [go_sem])
    have d7 : w1.cell? ⟨w.heap.size + 1 + 1, 7, none⟩ = some (.bool false) := kept hb1 (by simp [go_sem])
    have e7 : w1.frozen? ⟨w.heap.size + 1 + 1, 7, none⟩ = false := keptF hb1 (o := 7) (v := (.bool false)) (by simp [go_sem]) (by simp [go_sem])
    have d8 : w1.cell? ⟨w.heap.size + 1 + 1, 8, none⟩ = some (.bool false) := kept hb1 (by simp [go_sem])
    have e8 : w1.frozen? ⟨w.heap.size + 1 + 1, 8, none⟩ = false := keptF hb1 (o := 8) (v := (.bool false)) (by simp [go_sem]) (by simp [go_sem])
    clear hb1 h23 h26 h32 c2 k9 k10 HN
    go_wp2_with (first | (go_at_call 33; refine (isMethod _).mono ?_; rintro e w' ⟨rfl, rfl⟩) | (go_at_call 34; refine (HF.out _).mono ?_; rintro e w' ⟨rfl, rfl⟩))
    all_goals
      exact bodyPost_ret (v := .agg #[.pointer (some ⟨kb, 0, none⟩), .slice (some ⟨D, 0, none⟩) n n, .slice none 0 0, .bool false, .bool true, .bool false, .bool false, .bool false, .bool cm]) (by simp [results, Tryd.results26, go_sem, *]) rfl ⟨rfl, (by repeat (first | with_reducible exact HB.out | (with_reducible refine Below.setCell ?_ (by simp; try omega) _)))⟩
set_option maxRecDepth 100000 in
set_option maxHeartbeats 8000000 in
theorem apPEz (c k b kb D n : Nat) (iv : Value) (hiv : iv = .nilIface ∨ ∃ q, iv = .iface 238 (.pointer (some ⟨q, 0, none⟩))) (fl : Int) (cm x y us : Bool) (lo : Bool) (pf : Int) (hpf : pf = 0 ∨ pf = 8) (w : World) (hf : Flag fl cm) (hp : PB w b true 1 pf) (hc : CX w c k us lo) (hk : w.cell? ⟨kb, 1, none⟩ = some (.int .u32 0)) (hn1 : n ≤ 4096) (hn : n = 0) :
    Calls Tryd.prog 26 #[.pointer (some ⟨c, 0, none⟩), .pointer (some ⟨b, 0, none⟩), .agg #[.pointer none, .iface 229 (.pointer (some ⟨kb, 0, none⟩)), .int .i32 0, .nilIface, .int .i32 0, iv, .int .i32 0, .slice (some ⟨D, 0, none⟩) n n, .int .i32 0, .int .i32 0, .int .u8 1, .int .u8 fl], .agg #[.bool x, .bool y, .bool false]] w fun e w' => e = .returned (.agg #[.pointer (some ⟨kb, 0, none⟩), .slice (some ⟨D, 0, none⟩) n n, .slice none 0 0, .bool false, .bool true, .bool false, .bool false, .bool false, .bool false]) ∧ Below w.heap.size w w' := by
  subst hn
  have HP := Lib.hid hp
  have HF := Lib.hid (has fl cm hf)
  obtain ⟨gg, cap, h23, h26, h32, h106, h7, h8⟩ := hp
  obtain ⟨c2, k9, k10⟩ := hc
  have lb : b < w.heap.size := World.block_lt_of_cell? _ _ h23
  have lc : c < w.heap.size := World.block_lt_of_cell? _ _ c2
  have lk : k < w.heap.size := World.block_lt_of_cell? _ _ k9
  have lb1 : b < w.heap.size + 1 := by omega
  have lc1 : c < w.heap.size + 1 := by omega
  have lk1 : k < w.heap.size + 1 := by omega
  have lb2 : b < w.heap.size + 1 + 1 := by omega
  have lc2 : c < w.heap.size + 1 + 1 := by omega
  have lk2 : k < w.heap.size + 1 + 1 := by omega
  clear h106 h7 h8 hf
  rcases hiv with rfl | ⟨q, rfl⟩
  all_goals
    have HN := Lib.hid (fun (W : World) (hW : Below w.heap.size w W) => needLow b kb true 1 pf hpf W (HP.out.keep hW) (kept hW hk))
    clear hk
    go_enter Tryd.func26, Tryd.ntmps26
    go_wp2_with fail
    refine (HN.out _ (by repeat (first | with_reducible exact Below.refl _ _ | (with_reducible refine Below.drew ?_) | (with_reducible refine Below.alloc ?_ (by simp; try omega) _) | (with_reducible refine Below.setCell ?_ (by simp; try omega) _)))).mono ?_
    rintro e w1 ⟨r, rfl, hb1⟩
    have HB := Lib.hid (show Below w.heap.size w w1 from ((by repeat (first | with_reducible exact Below.refl _ _ | (with_reducible refine Below.drew ?_) | (with_reducible refine Below.alloc ?_ (by simp; try omega) _) | (with_reducible refine Below.setCell ?_ (by simp; try omega) _))) : Below w.heap.size w _).trans (hb1.mono (by simp; omega)))
    have q23 := kept HB.out h23
    have q26 := kept HB.out h26
    have q32 := kept HB.out h32
    have qc2 := kept HB.out c2
    have qk9 := kept HB.out k9
    have qk10 := kept HB.out k10
    have a0 : w1.cell? ⟨w.heap.size, 0, none⟩ = some (.pointer none) := kept hb1 (by simp [go_sem])
    have a1 : w1.cell? ⟨w.heap.size, 1, none⟩ = some (.iface 229 (.pointer (some ⟨kb, 0, none⟩))) := kept hb1 (by simp [go_sem])
    have a2 : w1.cell? ⟨w.heap.size, 2, none⟩ = some (.int .i32 0) := kept hb1 (by simp [go_sem])
    have a3 : w1.cell? ⟨w.heap.size, 3, none⟩ = some .nilIface := kept hb1 (by simp [go_sem])
    have a4 : w1.cell? ⟨w.heap.size, 4, none⟩ = some (.int .i32 0) := kept hb1 (by simp [go_sem])
    have a5 := kept (b := w.heap.size) (o := 5) hb1 (by simp [go_sem]; rfl)
    have a6 : w1.cell? ⟨w.heap.size, 6, none⟩ = some (.int .i32 0) := kept hb1 (by simp [go_sem])
    have a7 : w1.cell? ⟨w.heap.size, 7, none⟩ = some (.slice (some ⟨D, 0, none⟩) 0 0) := kept hb1 (by simp [go_sem])
    have a8 : w1.cell? ⟨w.heap.size, 8, none⟩ = some (.int .i32 0) := kept hb1 (by simp [go_sem])
    have a9 : w1.cell? ⟨w.heap.size, 9, none⟩ = some (.int .i32 0) := kept hb1 (by simp [go_sem])
    have a10 : w1.cell? ⟨w.heap.size, 10, none⟩ = some (.int .u8 1) := kept hb1 (by simp [go_sem])
    have a11 : w1.cell? ⟨w.heap.size, 11, none⟩ = some (.int .u8 fl) := kept hb1 (by simp [go_sem])
    have b0 : w1.cell? ⟨w.heap.size + 1, 0, none⟩ = some (.bool x) := kept hb1 (by simp [go_sem])
    have b1 : w1.cell? ⟨w.heap.size + 1, 1, none⟩ = some (.bool y) := kept hb1 (by simp [go_sem])
    have b2 : w1.cell? ⟨w.heap.size + 1, 2, none⟩ = some (.bool false) := kept hb1 (by simp [go_sem])
    have d0 : w1.cell? ⟨w.heap.size + 1 + 1, 0, none⟩ = some (.pointer (some ⟨kb, 0, none⟩)) := kept hb1 (by simp [go_sem])
    have e0 : w1.frozen? ⟨w.heap.size + 1 + 1, 0, none⟩ = false := keptF hb1 (o := 0) (v := (.pointer (some ⟨kb, 0, none⟩))) (by simp [go_sem]) (by simp [go_sem])
    have d1 : w1.cell? ⟨w.heap.size + 1 + 1, 1, none⟩ = some (.slice none 0 0) := kept hb1 (by simp [go_sem])
    have e1 : w1.frozen? ⟨w.heap.size + 1 + 1, 1, none⟩ = false := keptF hb1 (o := 1) (v := (.slice none 0 0)) (by simp [go_sem]) (by simp [go_sem])
    have d2 : w1.cell? ⟨w.heap.size + 1 + 1, 2, none⟩ = some (.slice none 0 0) := kept hb1 (by simp [go_sem])
    have e2 : w1.frozen? ⟨w.heap.size + 1 + 1, 2, none⟩ = false := keptF hb1 (o := 2) (v := (.slice none 0 0)) (by simp [go_sem]) (by simp [go_sem])
    have d3 : w1.cell? ⟨w.heap.size + 1 + 1, 3, none⟩ = some (.bool false) := kept hb1 (by simp [go_sem])
    have e3 : w1.frozen? ⟨w.heap.size + 1 + 1, 3, none⟩ = false := keptF hb1 (o := 3) (v := (.bool false)) (by simp [go_sem]) (by simp [go_sem])
    have d4 : w1.cell? ⟨w.heap.size + 1 + 1, 4, none⟩ = some (.bool false) := kept hb1 (by simp [go_sem])
    have e4 : w1.frozen? ⟨w.heap.size + 1 + 1, 4, none⟩ = false := keptF hb1 (o := 4) (v := (.bool false)) (by simp [go_sem]) (by simp [go_sem])
    have d5 : w1.cell? ⟨w.heap.size + 1 + 1, 5, none⟩ = some (.bool false) := kept hb1 (by simp [go_sem])
    have e5 : w1.frozen? ⟨w.heap.size + 1 + 1, 5, none⟩ = false := keptF hb1 (o := 5) (v := (.bool false)) (by simp [go_sem]) (by simp [go_sem])
    have d6 : w1.cell? ⟨w.heap.size + 1 + 1, 6, none⟩ = some (.bool false) := kept hb1 (by simp [go_sem])
    have e6 : w1.frozen? ⟨w.heap.size + 1 + 1, 6, none⟩ = false := keptF hb1 (o := 6) (v := (.bool false)) (by simp [go_sem]) (by simp [go_sem])
    have d7 : w1.cell? ⟨w.heap.size + 1 + 1, 7, none⟩ = some (.bool false) := kept hb1 (by simp [go_sem])
    have e7 : w1.frozen? ⟨w.heap.size + 1 + 1, 7, none⟩ = false := keptF hb1 (o := 7) (v := (.bool false)) (by simp [go_sem]) (by simp [go_sem])
    have d8 : w1.cell? ⟨w.heap.size + 1 + 1, 8, none⟩ = some (.bool false) := kept hb1 (by simp [go_sem])
    have e8 : w1.frozen? ⟨w.heap.size + 1 + 1, 8, none⟩ = false := keptF hb1 (o := 8) (v := (.bool false)) (by simp [go_sem]) (by simp [go_sem])
    clear hb1 h23 h26 h32 c2 k9 k10 HN
    go_wp2_with (first | (go_at_call 33; refine (isMethod _).mono ?_; rintro e w' ⟨rfl, rfl⟩) | (go_at_call 34; refine (HF.out _).mono ?_; rintro e w' ⟨rfl, rfl⟩))
    all_goals
      exact bodyPost_ret (v := .agg #[.pointer (some ⟨kb, 0, none⟩), .slice (some ⟨D, 0, none⟩) 0 0, .slice none 0 0, .bool false, .bool true, .bool false, .bool false, .bool false, .bool false]) (by simp [results, Tryd.results26, go_sem, *]) rfl ⟨rfl, (by repeat (first | with_reducible exact HB.out | (with_reducible refine Below.setCell ?_ (by simp; try omega) _)))⟩
set_option maxRecDepth 100000 in
set_option maxHeartbeats 8000000 in
theorem apPT1p (c k b kb D n : Nat) (iv : Value) (hiv : iv = .nilIface ∨ ∃ q, iv = .iface 238 (.pointer (some ⟨q, 0, none⟩))) (fl : Int) (cm x y us : Bool) (pf : Int) (hpf : pf = 0 ∨ pf = 8) (w : World) (hf : Flag fl cm) (hp : PB w b true 0 pf) (hc : CX w c k us true) (hk : w.cell? ⟨kb, 1, none⟩ = some (.int .u32 0)) (hn1 : n ≤ 4096) (hn : 0 < n) :
    Calls Tryd.prog 26 #[.pointer (some ⟨c, 0, none⟩), .pointer (some ⟨b, 0, none⟩), .agg #[.pointer none, .iface 229 (.pointer (some ⟨kb, 0, none⟩)), .int .i32 0, .nilIface, .int .i32 0, iv, .int .i32 0, .slice (some ⟨D, 0, none⟩) n n, .int .i32 0, .int .i32 0, .int .u8 1, .int .u8 fl], .agg #[.bool x, .bool y, .bool false]] w fun e w' => e = .returned (.agg #[.pointer (some ⟨kb, 0, none⟩), .slice none 0 0, .slice (some ⟨D, 0, none⟩) n n, .bool false, .bool true, .bool false, .bool false, .bool false, .bool cm]) ∧ Below w.heap.size w w' := by
  have n0 : (n == 0) = false := by simp; omega
  have n0' : ((n : Int) == 0) = false := by simp; omega
  have n1 : decide (0 < n) = true := by simpa using hn
  have n1' : decide (0 < (n : Int)) = true := by simp; omega
  have HP := Lib.hid hp
  have HF := Lib.hid (has fl cm hf)
  obtain ⟨gg, cap, h23, h26, h32, h106, h7, h8⟩ := hp
  obtain ⟨c2, k9, k10⟩ := hc
  have lb : b < w.heap.size := World.block_lt_of_cell? _ _ h23
  have lc : c < w.heap.size := World.block_lt_of_cell? _ _ c2
  have lk : k < w.heap.size := World.block_lt_of_cell? _ _ k9
  have lb1 : b < w.heap.size + 1 := by omega
  have lc1 : c < w.heap.size + 1 := by omega
  have lk1 : k < w.heap.size + 1 := by omega
  have lb2 : b < w.heap.size + 1 + 1 := by omega
  have lc2 : c < w.heap.size + 1 + 1 := by omega
  have lk2 : k < w.heap.size + 1 + 1 := by omega
  clear h106 h7 h8 hf
  rcases hiv with rfl | ⟨q, rfl⟩
  all_goals
    have HN := Lib.hid (fun (W : World) (hW : Below w.heap.size w W) => needLow b kb true 0 pf hpf W (HP.out.keep hW) (kept hW hk))
    clear hk
    go_enter Tryd.func26, Tryd.ntmps26
    go_wp2_with fail
    refine (HN.out _ (by repeat (first | with_reducible exact Below.refl _ _ | (with_reducible refine Below.drew ?_) | (with_reducible refine Below.alloc ?_ (by simp; try omega) _) | (with_reducible refine Below.setCell ?_ (by simp; try omega) _)))).mono ?_
    rintro e w1 ⟨r, rfl, hb1⟩
    have HB := Lib.hid (show Below w.heap.size w w1 from ((by repeat (first | with_reducible exact Below.refl _ _ | (with_reducible refine Below.drew ?_) | (with_reducible refine Below.alloc ?_ (by simp; try omega) _) | (with_reducible refine Below.setCell ?_ (by simp; try omega) _))) : Below w.heap.size w _).trans (hb1.mono (by simp; omega)))
    have q23 := kept HB.out h23
    have q26 := kept HB.out h26
    have q32 := kept HB.out h32
    have qc2 := kept HB.out c2
    have qk9 := kept HB.out k9
    have qk10 := kept HB.out k10
    have a0 : w1.cell? ⟨w.heap.size, 0, none⟩ = some (.pointer none) := kept hb1 (by simp [go_sem])
    have a1 : w1.cell? ⟨w.heap.size, 1, none⟩ = some (.iface 229 (.pointer (some ⟨kb, 0, none⟩))) := kept hb1 (by simp [go_sem])
    have a2 : w1.cell? ⟨w.heap.size, 2, none⟩ = some (.int .i32 0) := kept hb1 (by simp [go_sem])
    have a3 : w1.cell? ⟨w.heap.size, 3, none⟩ = some .nilIface := kept hb1 (by simp [go_sem])
    have a4 : w1.cell? ⟨w.heap.size, 4, none⟩ = some (.int .i32 0) := kept hb1 (by simp [go_sem])
    have a5 := kept (b := w.heap.size) (o := 5) hb1 (by simp [go_sem]; rfl)
    have a6 : w1.cell? ⟨w.heap.size, 6, none⟩ = some (.int .i32 0) := kept hb1 (by simp [go_sem])
    have a7 : w1.cell? ⟨w.heap.size, 7, none⟩ = some (.slice (some ⟨D, 0, none⟩) n n) := kept hb1 (by simp [go_sem])
    have a8 : w1.cell? ⟨w.heap.size, 8, none⟩ = some (.int .i32 0) := kept hb1 (by simp [go_sem])
    have a9 : w1.cell? ⟨w.heap.size, 9, none⟩ = some (.int .i32 0) := kept hb1 (by simp [go_sem])
    have a10 : w1.cell? ⟨w.heap.size, 10, none⟩ = some (.int .u8 1) := kept hb1 (by simp [go_sem])
    have a11 : w1.cell? ⟨w.heap.size, 11, none⟩ = some (.int .u8 fl) := kept hb1 (by simp [go_sem])
    have b0 : w1.cell? ⟨w.heap.size + 1, 0, none⟩ = some (.bool x) := kept hb1 (by simp [go_sem])
    have b1 : w1.cell? ⟨w.heap.size + 1, 1, none⟩ = some (.bool y) := kept hb1 (by simp [go_sem])
    have b2 : w1.cell? ⟨w.heap.size + 1, 2, none⟩ = some (.bool false) := kept hb1 (by simp [go_sem])
    have d0 : w1.cell? ⟨w.heap.size + 1 + 1, 0, none⟩ = some (.pointer (some ⟨kb, 0, none⟩)) := kept hb1 (by simp [go_sem])
    have e0 : w1.frozen? ⟨w.heap.size + 1 + 1, 0, none⟩ = false := keptF hb1 (o := 0) (v := (.pointer (some ⟨kb, 0, none⟩))) (by simp [go_sem]) (by simp [go_sem])
    have d1 : w1.cell? ⟨w.heap.size + 1 + 1, 1, none⟩ = some (.slice none 0 0) := kept hb1 (by simp [go_sem])
    have e1 : w1.frozen? ⟨w.heap.size + 1 + 1, 1, none⟩ = false := keptF hb1 (o := 1) (v := (.slice none 0 0)) (by simp [go_sem]) (by simp [go_sem])
    have d2 : w1.cell? ⟨w.heap.size + 1 + 1, 2, none⟩ = some (.slice none 0 0) := kept hb1 (by simp [go_sem])
    have e2 : w1.frozen? ⟨w.heap.size + 1 + 1, 2, none⟩ = false := keptF hb1 (o := 2) (v := (.slice none 0 0)) (by simp [go_sem]) (by simp [go_sem])
    have d3 : w1.cell? ⟨w.heap.size + 1 + 1, 3, none⟩ = some (.bool false) := kept hb1 (by simp [go_sem])
    have e3 : w1.frozen? ⟨w.heap.size + 1 + 1, 3, none⟩ = false := keptF hb1 (o := 3) (v := (.bool false)) (by simp [go_sem]) (by simp [go_sem])
    have d4 : w1.cell? ⟨w.heap.size + 1 + 1, 4, none⟩ = some (.bool false) := kept hb1 (by simp [go_sem])
    have e4 : w1.frozen? ⟨w.heap.size + 1 + 1, 4, none⟩ = false := keptF hb1 (o := 4) (v := (.bool false)) (by simp [go_sem]) (by simp [go_sem])
    have d5 : w1.cell? ⟨w.heap.size + 1 + 1, 5, none⟩ = some (.bool false) := kept hb1 (by simp [go_sem])
    have e5 : w1.frozen? ⟨w.heap.size + 1 + 1, 5, none⟩ = false := keptF hb1 (o := 5) (v := (.bool false)) (by simp [go_sem]) (by simp [go_sem])
    have d6 : w1.cell? ⟨w.heap.size + 1 + 1, 6, none⟩ = some (.bool false) := kept hb1 (by simp [go_sem])
    have e6 : w1.frozen? ⟨w.heap.size + 1 + 1, 6, none⟩ = false := keptF hb1 (o := 6) (v := (.bool false)) (by simp [go_sem]) (by simp [go_sem])
    have d7 : w1.cell? ⟨w.heap.size + 1 + 1, 7, none⟩ = some (.bool false) := kept hb1 (by simp [go_sem])
    have e7 : w1.frozen? ⟨w.heap.size + 1 + 1, 7, none⟩ = false := keptF hb1 (o := 7) (v := (.bool false)) (by simp [go_sem]) (by simp [go_sem])
    have d8 : w1.cell? ⟨w.heap.size + 1 + 1, 8, none⟩ = some (.bool false) := kept hb1 (by simp [go_sem])
    have e8 : w1.frozen? ⟨w.heap.size + 1 + 1, 8, none⟩ = false := keptF hb1 (o := 8) (v := (.bool false)) (by simp [go_sem]) (by simp [go_sem])
    clear hb1 h23 h26 h32 c2 k9 k10 HN
    go_wp2_with (first | (go_at_call 33; refine (isMethod _).mono ?_; rintro e w' ⟨rfl, rfl⟩) | (go_at_call 34; refine (HF.out _).mono ?_; rintro e w' ⟨rfl, rfl⟩))
    all_goals
      exact bodyPost_ret (v := .agg #[.pointer (some ⟨kb, 0, none⟩), .slice none 0 0, .slice (some ⟨D, 0, none⟩) n n, .bool false, .bool true, .bool false, .bool false, .bool false, .bool cm]) (by simp [results, Tryd.results26, go_sem, *]) rfl ⟨rfl, (by repeat (first | with_reducible exact HB.out | (with_reducible refine Below.setCell ?_ (by simp; try omega) _)))⟩
set_option maxRecDepth 100000 in
set_option maxHeartbeats 8000000 in
theorem apPT1z (c k b kb D n : Nat) (iv : Value) (hiv : iv = .nilIface ∨ ∃ q, iv = .iface 238 (.pointer (some ⟨q, 0, none⟩))) (fl : Int) (cm x y us : Bool) (pf : Int) (hpf : pf = 0 ∨ pf = 8) (w : World) (hf : Flag fl cm) (hp : PB w b true 0 pf) (hc : CX w c k us true) (hk : w.cell? ⟨kb, 1, none⟩ = some (.int .u32 0)) (hn1 : n ≤ 4096) (hn : n = 0) :
    Calls Tryd.prog 26 #[.pointer (some ⟨c, 0, none⟩), .pointer (some ⟨b, 0, none⟩), .agg #[.pointer none, .iface 229 (.pointer (some ⟨kb, 0, none⟩)), .int .i32 0, .nilIface, .int .i32 0, iv, .int .i32 0, .slice (some ⟨D, 0, none⟩) n n, .int .i32 0, .int .i32 0, .int .u8 1, .int .u8 fl], .agg #[.bool x, .bool y, .bool false]] w fun e w' => e = .returned (.agg #[.pointer (some ⟨kb, 0, none⟩), .slice none 0 0, .slice (some ⟨D, 0, none⟩) n n, .bool false, .bool true, .bool false, .bool false, .bool false, .bool false]) ∧ Below w.heap.size w w' := by
  subst hn
  have HP := Lib.hid hp
  have HF := Lib.hid (has fl cm hf)
  obtain ⟨gg, cap, h23, h26, h32, h106, h7, h8⟩ := hp
  obtain ⟨c2, k9, k10⟩ := hc
  have lb : b < w.heap.size := World.block_lt_of_cell? _ _ h23
  have lc : c < w.heap.size := World.block_lt_of_cell? _ _ c2
  have lk : k < w.heap.size := World.block_lt_of_cell? _ _ k9
  have lb1 : b < w.heap.size + 1 := by omega
  have lc1 : c < w.heap.size + 1 := by omega
  have lk1 : k < w.heap.size + 1 := by omega
  have lb2 : b < w.heap.size + 1 + 1 := by omega
  have lc2 : c < w.heap.size + 1 + 1 := by omega
  have lk2 : k < w.heap.size + 1 + 1 := by omega
  clear h106 h7 h8 hf
  rcases hiv with rfl | ⟨q, rfl⟩
  all_goals
    have HN := Lib.hid (fun (W : World) (hW : Below w.heap.size w W) => needLow b kb true 0 pf hpf W (HP.out.keep hW) (kept hW hk))
    clear hk
    go_enter Tryd.func26, Tryd.ntmps26
    go_wp2_with fail
    refine (HN.out _ (by repeat (first | with_reducible exact Below.refl _ _ | (with_reducible refine Below.drew ?_) | (with_reducible refine Below.alloc ?_ (by simp; try omega) _) | (with_reducible refine Below.setCell ?_ (by simp; try omega) _)))).mono ?_
    rintro e w1 ⟨r, rfl, hb1⟩
    have HB := Lib.hid (show Below w.heap.size w w1 from ((by repeat (first | with_reducible exact Below.refl _ _ | (with_reducible refine Below.drew ?_) | (with_reducible refine Below.alloc ?_ (by simp; try omega) _) | (with_reducible refine Below.setCell ?_ (by simp; try omega) _))) : Below w.heap.size w _).trans (hb1.mono (by simp; omega)))
    have q23 := kept HB.out h23
    have q26 := kept HB.out h26
    have q32 := kept HB.out h32
    have qc2 := kept HB.out c2
    have qk9 := kept HB.out k9
    have qk10 := kept HB.out k10
    have a0 : w1.cell? ⟨w.heap.size, 0, none⟩ = some (.pointer none) := kept hb1 (by simp [go_sem])
    have a1 : w1.cell? ⟨w.heap.size, 1, none⟩ = some (.iface 229 (.pointer (some ⟨kb, 0, none⟩))) := kept hb1 (by simp [go_sem])
    have a2 : w1.cell? ⟨w.heap.size, 2, none⟩ = some (.int .i32 0) := kept hb1 (by simp [go_sem])
    have a3 : w1.cell? ⟨w.heap.size, 3, none⟩ = some .nilIface := kept hb1 (by simp [go_sem])
    have a4 : w1.cell? ⟨w.heap.size, 4, none⟩ = some (.int .i32 0) := kept hb1 (by simp [go_sem])
    have a5 := kept (b := w.heap.size) (o := 5) hb1 (by simp [go_sem]; rfl)
    have a6 : w1.cell? ⟨w.heap.size, 6, none⟩ = some (.int .i32 0) := kept hb1 (by simp [go_sem])
    have a7 : w1.cell? ⟨w.heap.size, 7, none⟩ = some (.slice (some ⟨D, 0, none⟩) 0 0) := kept hb1 (by simp [go_sem])
    have a8 : w1.cell? ⟨w.heap.size, 8, none⟩ = some (.int .i32 0) := kept hb1 (by simp [go_sem])
    have a9 : w1.cell? ⟨w.heap.size, 9, none⟩ = some (.int .i32 0) := kept hb1 (by simp [go_sem])
    have a10 : w1.cell? ⟨w.heap.size, 10, none⟩ = some (.int .u8 1) := kept hb1 (by simp [go_sem])
    have a11 : w1.cell? ⟨w.heap.size, 11, none⟩ = some (.int .u8 fl) := kept hb1 (by simp [go_sem])
    have b0 : w1.cell? ⟨w.heap.size + 1, 0, none⟩ = some (.bool x) := kept hb1 (by simp [go_sem])
    have b1 : w1.cell? ⟨w.heap.size + 1, 1, none⟩ = some (.bool y) := kept hb1 (by simp [go_sem])
    have b2 : w1.cell? ⟨w.heap.size + 1, 2, none⟩ = some (.bool false) := kept hb1 (by simp [go_sem])
    have d0 : w1.cell? ⟨w.heap.size + 1 + 1, 0, none⟩ = some (.pointer (some ⟨kb, 0, none⟩)) := kept hb1 (by simp [go_sem])
    have e0 : w1.frozen? ⟨w.heap.size + 1 + 1, 0, none⟩ = false := keptF hb1 (o := 0) (v := (.pointer (some ⟨kb, 0, none⟩))) (by simp [go_sem]) (by simp [go_sem])
    have d1 : w1.cell? ⟨w.heap.size + 1 + 1, 1, none⟩ = some (.slice none 0 0) := kept hb1 (by simp [go_sem])
    have e1 : w1.frozen? ⟨w.heap.size + 1 + 1, 1, none⟩ = false := keptF hb1 (o := 1) (v := (.slice none 0 0)) (by simp [go_sem]) (by simp [go_sem])
    have d2 : w1.cell? ⟨w.heap.size + 1 + 1, 2, none⟩ = some (.slice none 0 0) := kept hb1 (by simp [go_sem])
    have e2 : w1.frozen? ⟨w.heap.size + 1 + 1, 2, none⟩ = false := keptF hb1 (o := 2) (v := (.slice none 0 0)) (by simp [go_sem]) (by simp [go_sem])
    have d3 : w1.cell? ⟨w.heap.size + 1 + 1, 3, none⟩ = some (.bool false) := kept hb1 (by simp [go_sem])
    have e3 : w1.frozen? ⟨w.heap.size + 1 + 1, 3, none⟩ = false := keptF hb1 (o := 3) (v := (.bool false)) (by simp [go_sem]) (by simp [go_sem])
    have d4 : w1.cell? ⟨w.heap.size + 1 + 1, 4, none⟩ = some (.bool false) := kept hb1 (by simp [go_sem])
    have e4 : w1.frozen? ⟨w.heap.size + 1 + 1, 4, none⟩ = false := keptF hb1 (o := 4) (v := (.bool false)) (by simp [go_sem]) (by simp [go_sem])
    have d5 : w1.cell? ⟨w.heap.size + 1 + 1, 5, none⟩ = some (.bool false) := kept hb1 (by simp [go_sem])
    have e5 : w1.frozen? ⟨w.heap.size + 1 + 1, 5, none⟩ = false := keptF hb1 (o := 5) (v := (.bool false)) (by simp [go_sem]) (by simp [go_sem])
    have d6 : w1.cell? ⟨w.heap.size + 1 + 1, 6, none⟩ = some (.bool false) := kept hb1 (by simp [go_sem])
    have e6 : w1.frozen? ⟨w.heap.size + 1 + 1, 6, none⟩ = false := keptF hb1 (o := 6) (v := (.bool false)) (by simp [go_sem]) (by simp [go_sem])
    have d7 : w1.cell? ⟨w.heap.size + 1 + 1, 7, none⟩ = some (.bool false) := kept hb1 (by simp [go_sem])
    have e7 : w1.frozen? ⟨w.heap.size + 1 + 1, 7, none⟩ = false := keptF hb1 (o := 7) (v := (.bool false)) (by simp [go_sem]) (by simp [go_sem])
    have d8 : w1.cell? ⟨w.heap.size + 1 + 1, 8, none⟩ = some (.bool false) := kept hb1 (by simp [go_sem])
    have e8 : w1.frozen? ⟨w.heap.size + 1 + 1, 8, none⟩ = false := keptF hb1 (o := 8) (v := (.bool false)) (by simp [go_sem]) (by simp [go_sem])
    clear hb1 h23 h26 h32 c2 k9 k10 HN
    go_wp2_with (first | (go_at_call 33; refine (isMethod _).mono ?_; rintro e w' ⟨rfl, rfl⟩) | (go_at_call 34; refine (HF.out _).mono ?_; rintro e w' ⟨rfl, rfl⟩))
    all_goals
      exact bodyPost_ret (v := .agg #[.pointer (some ⟨kb, 0, none⟩), .slice none 0 0, .slice (some ⟨D, 0, none⟩) 0 0, .bool false, .bool true, .bool false, .bool false, .bool false, .bool false]) (by simp [results, Tryd.results26, go_sem, *]) rfl ⟨rfl, (by repeat (first | with_reducible exact HB.out | (with_reducible refine Below.setCell ?_ (by simp; try omega) _)))⟩
set_option maxRecDepth 100000 in
set_option maxHeartbeats 8000000 in
theorem apPT2p (c k b kb D n : Nat) (iv : Value) (hiv : iv = .nilIface ∨ ∃ q, iv = .iface 238 (.pointer (some ⟨q, 0, none⟩))) (fl : Int) (cm x y us : Bool) (ex : Int) (pf : Int) (hpf : pf = 0 ∨ pf = 8) (w : World) (hf : Flag fl cm) (hp : PB w b false ex pf) (hc : CX w c k us true) (hk : w.cell? ⟨kb, 1, none⟩ = some (.int .u32 0)) (hn1 : n ≤ 4096) (hn : 0 < n) :
    Calls Tryd.prog 26 #[.pointer (some ⟨c, 0, none⟩), .pointer (some ⟨b, 0, none⟩), .agg #[.pointer none, .iface 229 (.pointer (some ⟨kb, 0, none⟩)), .int .i32 0, .nilIface, .int .i32 0, iv, .int .i32 0, .slice (some ⟨D, 0, none⟩) n n, .int .i32 0, .int .i32 0, .int .u8 1, .int .u8 fl], .agg #[.bool x, .bool y, .bool false]] w fun e w' => e = .returned (.agg #[.pointer (some ⟨kb, 0, none⟩), .slice none 0 0, .slice (some ⟨D, 0, none⟩) n n, .bool false, .bool true, .bool false, .bool false, .bool false, .bool cm]) ∧ Below w.heap.size w w' := by
  have n0 : (n == 0) = false := by simp; omega
  have n0' : ((n : Int) == 0) = false := by simp; omega
  have n1 : decide (0 < n) = true := by simpa using hn
  have n1' : decide (0 < (n : Int)) = true := by simp; omega
  have HP := Lib.hid hp
  have HF := Lib.hid (has fl cm hf)
  obtain ⟨gg, cap, h23, h26, h32, h106, h7, h8⟩ := hp
  obtain ⟨c2, k9, k10⟩ := hc
  have lb : b < w.heap.size := World.block_lt_of_cell? _ _ h23
  have lc : c < w.heap.size := World.block_lt_of_cell? _ _ c2
  have lk : k < w.heap.size := World.block_lt_of_cell? _ _ k9
  have lb1 : b < w.heap.size + 1 := by omega
  have lc1 : c < w.heap.size + 1 := by omega
  have lk1 : k < w.heap.size + 1 := by omega
  have lb2 : b < w.heap.size + 1 + 1 := by omega
  have lc2 : c < w.heap.size + 1 + 1 := by omega
  have lk2 : k < w.heap.size + 1 + 1 := by omega
  clear h106 h7 h8 hf
  rcases hiv with rfl | ⟨q, rfl⟩
  all_goals
    have HN := Lib.hid (fun (W : World) (hW : Below w.heap.size w W) => needLow b kb false ex pf hpf W (HP.out.keep hW) (kept hW hk))
    clear hk
    go_enter Tryd.func26, Tryd.ntmps26
    go_wp2_with fail
    refine (HN.out _ (by repeat (first | with_reducible exact Below.refl _ _ | (with_reducible refine Below.drew ?_) | (with_reducible refine Below.alloc ?_ (by simp; try omega) _) | (with_reducible refine Below.setCell ?_ (by simp; try omega) _)))).mono ?_
    rintro e w1 ⟨r, rfl, hb1⟩
    have HB := Lib.hid (show Below w.heap.size w w1 from ((by repeat (first | with_reducible exact Below.refl _ _ | (with_reducible refine Below.drew ?_) | (with_reducible refine Below.alloc ?_ (by simp; try omega) _) | (with_reducible refine Below.setCell ?_ (by simp; try omega) _))) : Below w.heap.size w _).trans (hb1.mono (by simp; omega)))
    have q23 := kept HB.out h23
    have q26 := kept HB.out h26
    have q32 := kept HB.out h32
    have qc2 := kept HB.out c2
    have qk9 := kept HB.out k9
    have qk10 := kept HB.out k10
    have a0 : w1.cell? ⟨w.heap.size, 0, none⟩ = some (.pointer none) := kept hb1 (by simp [go_sem])
    have a1 : w1.cell? ⟨w.heap.size, 1, none⟩ = some (.iface 229 (.pointer (some ⟨kb, 0, none⟩))) := kept hb1 (by simp [go_sem])
    have a2 : w1.cell? ⟨w.heap.size, 2, none⟩ = some (.int .i32 0) := kept hb1 (by simp [go_sem])
    have a3 : w1.cell? ⟨w.heap.size, 3, none⟩ = some .nilIface := kept hb1 (by simp [go_sem])
    have a4 : w1.cell? ⟨w.heap.size, 4, none⟩ = some (.int .i32 0) := kept hb1 (by simp [go_sem])
    have a5 := kept (b := w.heap.size) (o := 5) hb1 (by simp [go_sem]; rfl)
    have a6 : w1.cell? ⟨w.heap.size, 6, none⟩ = some (.int .i32 0) := kept hb1 (by simp [go_sem])
    have a7 : w1.cell? ⟨w.heap.size, 7, none⟩ = some (.slice (some ⟨D, 0, none⟩) n n) := kept hb1 (by simp [go_sem])
    have a8 : w1.cell? ⟨w.heap.size, 8, none⟩ = some (.int .i32 0) := kept hb1 (by simp [go_sem])
    have a9 : w1.cell? ⟨w.heap.size, 9, none⟩ = some (.int .i32 0) := kept hb1 (by simp [go_sem])
    have a10 : w1.cell? ⟨w.heap.size, 10, none⟩ = some (.int .u8 1) := kept hb1 (by simp [go_sem])
    have a11 : w1.cell? ⟨w.heap.size, 11, none⟩ = some (.int .u8 fl) := kept hb1 (by simp [go_sem])
    have b0 : w1.cell? ⟨w.heap.size + 1, 0, none⟩ = some (.bool x) := kept hb1 (by simp [go_sem])
    have b1 : w1.cell? ⟨w.heap.size + 1, 1, none⟩ = some (.bool y) := kept hb1 (by simp [go_sem])
    have b2 : w1.cell? ⟨w.heap.size + 1, 2, none⟩ = some (.bool false) := kept hb1 (by simp [go_sem])
    have d0 : w1.cell? ⟨w.heap.size + 1 + 1, 0, none⟩ = some (.pointer (some ⟨kb, 0, none⟩)) := kept hb1 (by simp [go_sem])
    have e0 : w1.frozen? ⟨w.heap.size + 1 + 1, 0, none⟩ = false := keptF hb1 (o := 0) (v := (.pointer (some ⟨kb, 0, none⟩))) (by simp [go_sem]) (by simp [go_sem])
    have d1 : w1.cell? ⟨w.heap.size + 1 + 1, 1, none⟩ = some (.slice none 0 0) := kept hb1 (by simp [go_sem])
    have e1 : w1.frozen? ⟨w.heap.size + 1 + 1, 1, none⟩ = false := keptF hb1 (o := 1) (v := (.slice none 0 0)) (by simp [go_sem]) (by simp [go_sem])
    have d2 : w1.cell? ⟨w.heap.size + 1 + 1, 2, none⟩ = some (.slice none 0 0) := kept hb1 (by simp [go_sem])
    have e2 : w1.frozen? ⟨w.heap.size + 1 + 1, 2, none⟩ = false := keptF hb1 (o := 2) (v := (.slice none 0 0)) (by simp [go_sem]) (by simp [go_sem])
    have d3 : w1.cell? ⟨w.heap.size + 1 + 1, 3, none⟩ = some (.bool false) := kept hb1 (by simp [go_sem])
    have e3 : w1.frozen? ⟨w.heap.size + 1 + 1, 3, none⟩ = false := keptF hb1 (o := 3) (v := (.bool false)) (by simp [go_sem]) (by simp [go_sem])
    have d4 : w1.cell? ⟨w.heap.size + 1 + 1, 4, none⟩ = some (.bool false) := kept hb1 (by simp [go_sem])
    have e4 : w1.frozen? ⟨w.heap.size + 1 + 1, 4, none⟩ = false := keptF hb1 (o := 4) (v := (.bool false)) (by simp [go_sem]) (by simp [go_sem])
    have d5 : w1.cell? ⟨w.heap.size + 1 + 1, 5, none⟩ = some (.bool false) := kept hb1 (by simp [go_sem])
    have e5 : w1.frozen? ⟨w.heap.size + 1 + 1, 5, none⟩ = false := keptF hb1 (o := 5) (v := (.bool false)) (by simp [go_sem]) (by simp [go_sem])
    have d6 : w1.cell? ⟨w.heap.size + 1 + 1, 6, none⟩ = some (.bool false) := kept hb1 (by simp [go_sem])
    have e6 : w1.frozen? ⟨w.heap.size + 1 + 1, 6, none⟩ = false := keptF hb1 (o := 6) (v := (.bool false)) (by simp [go_sem]) (by simp [go_sem])
    have d7 : w1.cell? ⟨w.heap.size + 1 + 1, 7, none⟩ = some (.bool false) := kept hb1 (by simp [go_sem])
    have e7 : w1.frozen? ⟨w.heap.size + 1 + 1, 7, none⟩ = false := keptF hb1 (o := 7) (v := (.bool false)) (by simp [go_sem]) (by simp [go_sem])
    have d8 : w1.cell? ⟨w.heap.size + 1 + 1, 8, none⟩ = some (.bool false) := kept hb1 (by simp [go_sem])
    have e8 : w1.frozen? ⟨w.heap.size + 1 + 1, 8, none⟩ = false := keptF hb1 (o := 8) (v := (.bool false)) (by simp [go_sem]) (by simp [go_sem])
    clear hb1 h23 h26 h32 c2 k9 k10 HN
    go_wp2_with (first | (go_at_call 33; refine (isMethod _).mono ?_; rintro e w' ⟨rfl, rfl⟩) | (go_at_call 34; refine (HF.out _).mono ?_; rintro e w' ⟨rfl, rfl⟩))
    all_goals
      exact bodyPost_ret (v := .agg #[.pointer (some ⟨kb, 0, none⟩), .slice none 0 0, .slice (some ⟨D, 0, none⟩) n n, .bool false, .bool true, .bool false, .bool false, .bool false, .bool cm]) (by simp [results, Tryd.results26, go_sem, *]) rfl ⟨rfl, (by repeat (first | with_reducible exact HB.out | (with_reducible refine Below.setCell ?_ (by simp; try omega) _)))⟩
set_option maxRecDepth 100000 in
set_option maxHeartbeats 8000000 in
theorem apPT2z (c k b kb D n : Nat) (iv : Value) (hiv : iv = .nilIface ∨ ∃ q, iv = .iface 238 (.pointer (some ⟨q, 0, none⟩))) (fl : Int) (cm x y us : Bool) (ex : Int) (pf : Int) (hpf : pf = 0 ∨ pf = 8) (w : World) (hf : Flag fl cm) (hp : PB w b false ex pf) (hc : CX w c k us true) (hk : w.cell? ⟨kb, 1, none⟩ = some (.int .u32 0)) (hn1 : n ≤ 4096) (hn : n = 0) :
    Calls Tryd.prog 26 #[.pointer (some ⟨c, 0, none⟩), .pointer (some ⟨b, 0, none⟩), .agg #[.pointer none, .iface 229 (.pointer (some ⟨kb, 0, none⟩)), .int .i32 0, .nilIface, .int .i32 0, iv, .int .i32 0, .slice (some ⟨D, 0, none⟩) n n, .int .i32 0, .int .i32 0, .int .u8 1, .int .u8 fl], .agg #[.bool x, .bool y, .bool false]] w fun e w' => e = .returned (.agg #[.pointer (some ⟨kb, 0, none⟩), .slice none 0 0, .slice (some ⟨D, 0, none⟩) n n, .bool false, .bool true, .bool false, .bool false, .bool false, .bool false]) ∧ Below w.heap.size w w' := by
  subst hn
  have HP := Lib.hid hp
  have HF := Lib.hid (has fl cm hf)
  obtain ⟨gg, cap, h23, h26, h32, h106, h7, h8⟩ := hp
  obtain ⟨c2, k9, k10⟩ := hc
  have lb : b < w.heap.size := World.block_lt_of_cell? _ _ h23
  have lc : c < w.heap.size := World.block_lt_of_cell? _ _ c2
  have lk : k < w.heap.size := World.block_lt_of_cell? _ _ k9
  have lb1 : b < w.heap.size + 1 := by omega
  have lc1 : c < w.heap.size + 1 := by omega
  have lk1 : k < w.heap.size + 1 := by omega
  have lb2 : b < w.heap.size + 1 + 1 := by omega
  have lc2 : c < w.heap.size + 1 + 1 := by omega
  have lk2 : k < w.heap.size + 1 + 1 := by omega
  clear h106 h7 h8 hf
  rcases hiv with rfl | ⟨q, rfl⟩
  all_goals
    have HN := Lib.hid (fun (W : World) (hW : Below w.heap.size w W) => needLow b kb false ex pf hpf W (HP.out.keep hW) (kept hW hk))
    clear hk
    go_enter Tryd.func26, Tryd.ntmps26
    go_wp2_with fail
    refine (HN.out _ (by repeat (first | with_reducible exact Below.refl _ _ | (with_reducible refine Below.drew ?_) | (with_reducible refine Below.alloc ?_ (by simp; try omega) _) | (with_reducible refine Below.setCell ?_ (by simp; try omega) _)))).mono ?_
    rintro e w1 ⟨r, rfl, hb1⟩
    have HB := Lib.hid (show Below w.heap.size w w1 from ((by repeat (first | with_reducible exact Below.refl _ _ | (with_reducible refine Below.drew ?_) | (with_reducible refine Below.alloc ?_ (by simp; try omega) _) | (with_reducible refine Below.setCell ?_ (by simp; try omega) _))) : Below w.heap.size w _).trans (hb1.mono (by simp; omega)))
    have q23 := kept HB.out h23
    have q26 := kept HB.out h26
    have q32 := kept HB.out h32
    have qc2 := kept HB.out c2
    have qk9 := kept HB.out k9
    have qk10 := kept HB.out k10
    have a0 : w1.cell? ⟨w.heap.size, 0, none⟩ = some (.pointer none) := kept hb1 (by simp [go_sem])
    have a1 : w1.cell? ⟨w.heap.size, 1, none⟩ = some (.iface 229 (.pointer (some ⟨kb, 0, none⟩))) := kept hb1 (by simp [go_sem])
    have a2 : w1.cell? ⟨w.heap.size, 2, none⟩ = some (.int .i32 0) := kept hb1 (by simp [go_sem])
    have a3 : w1.cell? ⟨w.heap.size, 3, none⟩ = some .nilIface := kept hb1 (by simp [go_sem])
    have a4 : w1.cell? ⟨w.heap.size, 4, none⟩ = some (.int .i32 0) := kept hb1 (by simp [go_sem])
    have a5 := kept (b := w.heap.size) (o := 5) hb1 (by simp [go_sem]; rfl)
    have a6 : w1.cell? ⟨w.heap.size, 6, none⟩ = some (.int .i32 0) := kept hb1 (by simp [go_sem])
    have a7 : w1.cell? ⟨w.heap.size, 7, none⟩ = some (.slice (some ⟨D, 0, none⟩) 0 0) := kept hb1 (by simp [go_sem])
    have a8 : w1.cell? ⟨w.heap.size, 8, none⟩ = some (.int .i32 0) := kept hb1 (by simp [go_sem])
    have a9 : w1.cell? ⟨w.heap.size, 9, none⟩ = some (.int .i32 0) := kept hb1 (by simp [go_sem])
    have a10 : w1.cell? ⟨w.heap.size, 10, none⟩ = some (.int .u8 1) := kept hb1 (by simp [go_sem])
    have a11 : w1.cell? ⟨w.heap.size, 11, none⟩ = some (.int .u8 fl) := kept hb1 (by simp [go_sem])
    have b0 : w1.cell? ⟨w.heap.size + 1, 0, none⟩ = some (.bool x) := kept hb1 (by simp [go_sem])
    have b1 : w1.cell? ⟨w.heap.size + 1, 1, none⟩ = some (.bool y) := kept hb1 (by simp [go_sem])
    have b2 : w1.cell? ⟨w.heap.size + 1, 2, none⟩ = some (.bool false) := kept hb1 (by simp [go_sem])
    have d0 : w1.cell? ⟨w.heap.size + 1 + 1, 0, none⟩ = some (.pointer (some ⟨kb, 0, none⟩)) := kept hb1 (by simp [go_sem])
    have e0 : w1.frozen? ⟨w.heap.size + 1 + 1, 0, none⟩ = false := keptF hb1 (o := 0) (v := (.pointer (some ⟨kb, 0, none⟩))) (by simp [go_sem]) (by simp [go_sem])
    have d1 : w1.cell? ⟨w.heap.size + 1 + 1, 1, none⟩ = some (.slice none 0 0) := kept hb1 (by simp [go_sem])
    have e1 : w1.frozen? ⟨w.heap.size + 1 + 1, 1, none⟩ = false := keptF hb1 (o := 1) (v := (.slice none 0 0)) (by simp [go_sem]) (by simp [go_sem])
    have d2 : w1.cell? ⟨w.heap.size + 1 + 1, 2, none⟩ = some (.slice none 0 0) := kept hb1 (by simp [go_sem])
    have e2 : w1.frozen? ⟨w.heap.size + 1 + 1, 2, none⟩ = false := keptF hb1 (o := 2) (v := (.slice none 0 0)) (by simp [go_sem]) (by simp [go_sem])
    have d3 : w1.cell? ⟨w.heap.size + 1 + 1, 3, none⟩ = some (.bool false) := kept hb1 (by simp [go_sem])
    have e3 : w1.frozen? ⟨w.heap.size + 1 + 1, 3, none⟩ = false := keptF hb1 (o := 3) (v := (.bool false)) (by simp [go_sem]) (by simp [go_sem])
    have d4 : w1.cell? ⟨w.heap.size + 1 + 1, 4, none⟩ = some (.bool false) := kept hb1 (by simp [go_sem])
    have e4 : w1.frozen? ⟨w.heap.size + 1 + 1, 4, none⟩ = false := keptF hb1 (o := 4) (v := (.bool false)) (by simp [go_sem]) (by simp [go_sem])
    have d5 : w1.cell? ⟨w.heap.size + 1 + 1, 5, none⟩ = some (.bool false) := kept hb1 (by simp [go_sem])
    have e5 : w1.frozen? ⟨w.heap.size + 1 + 1, 5, none⟩ = false := keptF hb1 (o := 5) (v := (.bool false)) (by simp [go_sem]) (by simp [go_sem])
    have d6 : w1.cell? ⟨w.heap.size + 1 + 1, 6, none⟩ = some (.bool false) := kept hb1 (by simp [go_sem])
    have e6 : w1.frozen? ⟨w.heap.size + 1 + 1, 6, none⟩ = false := keptF hb1 (o := 6) (v := (.bool false)) (by simp [go_sem]) (by simp [go_sem])
    have d7 : w1.cell? ⟨w.heap.size + 1 + 1, 7, none⟩ = some (.bool false) := kept hb1 (by simp [go_sem])
    have e7 : w1.frozen? ⟨w.heap.size + 1 + 1, 7, none⟩ = false := keptF hb1 (o := 7) (v := (.bool false)) (by simp [go_sem]) (by simp [go_sem])
    have d8 : w1.cell? ⟨w.heap.size + 1 + 1, 8, none⟩ = some (.bool false) := kept hb1 (by simp [go_sem])
    have e8 : w1.frozen? ⟨w.heap.size + 1 + 1, 8, none⟩ = false := keptF hb1 (o := 8) (v := (.bool false)) (by simp [go_sem]) (by simp [go_sem])
    clear hb1 h23 h26 h32 c2 k9 k10 HN
    go_wp2_with (first | (go_at_call 33; refine (isMethod _).mono ?_; rintro e w' ⟨rfl, rfl⟩) | (go_at_call 34; refine (HF.out _).mono ?_; rintro e w' ⟨rfl, rfl⟩))
    all_goals
      exact bodyPost_ret (v := .agg #[.pointer (some ⟨kb, 0, none⟩), .slice none 0 0, .slice (some ⟨D, 0, none⟩) 0 0, .bool false, .bool true, .bool false, .bool false, .bool false, .bool false]) (by simp [results, Tryd.results26, go_sem, *]) rfl ⟨rfl, (by repeat (first | with_reducible exact HB.out | (with_reducible refine Below.setCell ?_ (by simp; try omega) _)))⟩
set_option maxRecDepth 100000 in
set_option maxHeartbeats 8000000 in
theorem apPN1 (c k b kb D n : Nat) (iv : Value) (hiv : iv = .nilIface ∨ ∃ q, iv = .iface 238 (.pointer (some ⟨q, 0, none⟩))) (fl : Int) (cm x y us : Bool) (pf : Int) (hpf : pf = 0 ∨ pf = 8) (w : World) (hf : Flag fl cm) (hp : PB w b true 0 pf) (hc : CX w c k us false) (hk : w.cell? ⟨kb, 1, none⟩ = some (.int .u32 0)) (hn1 : n ≤ 4096) :
    Calls Tryd.prog 26 #[.pointer (some ⟨c, 0, none⟩), .pointer (some ⟨b, 0, none⟩), .agg #[.pointer none, .iface 229 (.pointer (some ⟨kb, 0, none⟩)), .int .i32 0, .nilIface, .int .i32 0, iv, .int .i32 0, .slice (some ⟨D, 0, none⟩) n n, .int .i32 0, .int .i32 0, .int .u8 1, .int .u8 fl], .agg #[.bool x, .bool y, .bool false]] w fun e w' => e = .returned (.agg #[.pointer (some ⟨kb, 0, none⟩), .slice none 0 0, .slice none 0 0, .bool false, .bool true, .bool false, .bool false, .bool false, .bool false]) ∧ Below w.heap.size w w' := by
  have HP := Lib.hid hp
  have HF := Lib.hid (has fl cm hf)
  obtain ⟨gg, cap, h23, h26, h32, h106, h7, h8⟩ := hp
  obtain ⟨c2, k9, k10⟩ := hc
  have lb : b < w.heap.size := World.block_lt_of_cell? _ _ h23
  have lc : c < w.heap.size := World.block_lt_of_cell? _ _ c2
  have lk : k < w.heap.size := World.block_lt_of_cell? _ _ k9
  have lb1 : b < w.heap.size + 1 := by omega
  have lc1 : c < w.heap.size + 1 := by omega
  have lk1 : k < w.heap.size + 1 := by omega
  have lb2 : b < w.heap.size + 1 + 1 := by omega
  have lc2 : c < w.heap.size + 1 + 1 := by omega
  have lk2 : k < w.heap.size + 1 + 1 := by omega
  clear h106 h7 h8 hf
  rcases hiv with rfl | ⟨q, rfl⟩
  all_goals
    have HN := Lib.hid (fun (W : World) (hW : Below w.heap.size w W) => needLow b kb true 0 pf hpf W (HP.out.keep hW) (kept hW hk))
    clear hk
    go_enter Tryd.func26, Tryd.ntmps26
    go_wp2_with fail
    refine (HN.out _ (by repeat (first | with_reducible exact Below.refl _ _ | (with_reducible refine Below.drew ?_) | (with_reducible refine Below.alloc ?_ (by simp; try omega) _) | (with_reducible refine Below.setCell ?_ (by simp; try omega) _)))).mono ?_
    rintro e w1 ⟨r, rfl, hb1⟩
    have HB := Lib.hid (show Below w.heap.size w w1 from ((by repeat (first | with_reducible exact Below.refl _ _ | (with_reducible refine Below.drew ?_) | (with_reducible refine Below.alloc ?_ (by simp; try omega) _) | (with_reducible refine Below.setCell ?_ (by simp; try omega) _))) : Below w.heap.size w _).trans (hb1.mono (by simp; omega)))
    have q23 := kept HB.out h23
    have q26 := kept HB.out h26
    have q32 := kept HB.out h32
    have qc2 := kept HB.out c2
    have qk9 := kept HB.out k9
    have qk10 := kept HB.out k10
    have a0 : w1.cell? ⟨w.heap.size, 0, none⟩ = some (.pointer none) := kept hb1 (by simp [go_sem])
    have a1 : w1.cell? ⟨w.heap.size, 1, none⟩ = some (.iface 229 (.pointer (some ⟨kb, 0, none⟩))) := kept hb1 (by simp [go_sem])
    have a2 : w1.cell? ⟨w.heap.size, 2, none⟩ = some (.int .i32 0) := kept hb1 (by simp [go_sem])
    have a3 : w1.cell? ⟨w.heap.size, 3, none⟩ = some .nilIface := kept hb1 (by simp [go_sem])
    have a4 : w1.cell? ⟨w.heap.size, 4, none⟩ = some (.int .i32 0) := kept hb1 (by simp [go_sem])
    have a5 := kept (b := w.heap.size) (o := 5) hb1 (by simp [go_sem]; rfl)
    have a6 : w1.cell? ⟨w.heap.size, 6, none⟩ = some (.int .i32 0) := kept hb1 (by simp [go_sem])
    have a7 : w1.cell? ⟨w.heap.size, 7, none⟩ = some (.slice (some ⟨D, 0, none⟩) n n) := kept hb1 (by simp [go_sem])
    have a8 : w1.cell? ⟨w.heap.size, 8, none⟩ = some (.int .i32 0) := kept hb1 (by simp [go_sem])
    have a9 : w1.cell? ⟨w.heap.size, 9, none⟩ = some (.int .i32 0) := kept hb1 (by simp [go_sem])
    have a10 : w1.cell? ⟨w.heap.size, 10, none⟩ = some (.int .u8 1) := kept hb1 (by simp [go_sem])
    have a11 : w1.cell? ⟨w.heap.size, 11, none⟩ = some (.int .u8 fl) := kept hb1 (by simp [go_sem])
    have b0 : w1.cell? ⟨w.heap.size + 1, 0, none⟩ = some (.bool x) := kept hb1 (by simp [go_sem])
    have b1 : w1.cell? ⟨w.heap.size + 1, 1, none⟩ = some (.bool y) := kept hb1 (by simp [go_sem])
    have b2 : w1.cell? ⟨w.heap.size + 1, 2, none⟩ = some (.bool false) := kept hb1 (by simp [go_sem])
    have d0 : w1.cell? ⟨w.heap.size + 1 + 1, 0, none⟩ = some (.pointer (some ⟨kb, 0, none⟩)) := kept hb1 (by simp [go_sem])
    have e0 : w1.frozen? ⟨w.heap.size + 1 + 1, 0, none⟩ = false := keptF hb1 (o := 0) (v := (.pointer (some ⟨kb, 0, none⟩))) (by simp [go_sem]) (by simp [go_sem])
    have d1 : w1.cell? ⟨w.heap.size + 1 + 1, 1, none⟩ = some (.slice none 0 0) := kept hb1 (by simp [go_sem])
    have e1 : w1.frozen? ⟨w.heap.size + 1 + 1, 1, none⟩ = false := keptF hb1 (o := 1) (v := (.slice none 0 0)) (by simp [go_sem]) (by simp [go_sem])
    have d2 : w1.cell? ⟨w.heap.size + 1 + 1, 2, none⟩ = some (.slice none 0 0) := kept hb1 (by simp [go_sem])
    have e2 : w1.frozen? ⟨w.heap.size + 1 + 1, 2, none⟩ = false := keptF hb1 (o := 2) (v := (.slice none 0 0)) (by simp [go_sem]) (by simp [go_sem])
    have d3 : w1.cell? ⟨w.heap.size + 1 + 1, 3, none⟩ = some (.bool false) := kept hb1 (by simp [go_sem])
    have e3 : w1.frozen? ⟨w.heap.size + 1 + 1, 3, none⟩ = false := keptF hb1 (o := 3) (v := (.bool false)) (by simp [go_sem]) (by simp [go_sem])
    have d4 : w1.cell? ⟨w.heap.size + 1 + 1, 4, none⟩ = some (.bool false) := kept hb1 (by simp [go_sem])
    have e4 : w1.frozen? ⟨w.heap.size + 1 + 1, 4, none⟩ = false := keptF hb1 (o := 4) (v := (.bool false)) (by simp [go_sem]) (by simp [go_sem])
    have d5 : w1.cell? ⟨w.heap.size + 1 + 1, 5, none⟩ = some (.bool false) := kept hb1 (by simp [go_sem])
    have e5 : w1.frozen? ⟨w.heap.size + 1 + 1, 5, none⟩ = false := keptF hb1 (o := 5) (v := (.bool false)) (by simp [go_sem]) (by simp [go_sem])
    have d6 : w1.cell? ⟨w.heap.size + 1 + 1, 6, none⟩ = some (.bool false) := kept hb1 (by simp [go_sem])
    have e6 : w1.frozen? ⟨w.heap.size + 1 + 1, 6, none⟩ = false := keptF hb1 (o := 6) (v := (.bool false)) (by simp [go_sem]) (by simp [go_sem])
    have d7 : w1.cell? ⟨w.heap.size + 1 + 1, 7, none⟩ = some (.bool false) := kept hb1 (by simp [go_sem])
    have e7 : w1.frozen? ⟨w.heap.size + 1 + 1, 7, none⟩ = false := keptF hb1 (o := 7) (v := (.bool false)) (by simp [go_sem]) (by simp [go_sem])
    have d8 : w1.cell? ⟨w.heap.size + 1 + 1, 8, none⟩ = some (.bool false) := kept hb1 (by simp [go_sem])
    have e8 : w1.frozen? ⟨w.heap.size + 1 + 1, 8, none⟩ = false := keptF hb1 (o := 8) (v := (.bool false)) (by simp [go_sem]) (by simp [go_sem])
    clear hb1 h23 h26 h32 c2 k9 k10 HN
    go_wp2_with (first | (go_at_call 33; refine (isMethod _).mono ?_; rintro e w' ⟨rfl, rfl⟩) | (go_at_call 34; refine (HF.out _).mono ?_; rintro e w' ⟨rfl, rfl⟩))
    all_goals
      exact bodyPost_ret (v := .agg #[.pointer (some ⟨kb, 0, none⟩), .slice none 0 0, .slice none 0 0, .bool false, .bool true, .bool false, .bool false, .bool false, .bool false]) (by simp [results, Tryd.results26, go_sem, *]) rfl ⟨rfl, (by repeat (first | with_reducible exact HB.out | (with_reducible refine Below.setCell ?_ (by simp; try omega) _)))⟩
set_option maxRecDepth 100000 in
set_option maxHeartbeats 8000000 in
theorem apPN2 (c k b kb D n : Nat) (iv : Value) (hiv : iv = .nilIface ∨ ∃ q, iv = .iface 238 (.pointer (some ⟨q, 0, none⟩))) (fl : Int) (cm x y us : Bool) (ex : Int) (pf : Int) (hpf : pf = 0 ∨ pf = 8) (w : World) (hf : Flag fl cm) (hp : PB w b false ex pf) (hc : CX w c k us false) (hk : w.cell? ⟨kb, 1, none⟩ = some (.int .u32 0)) (hn1 : n ≤ 4096) :
    Calls Tryd.prog 26 #[.pointer (some ⟨c, 0, none⟩), .pointer (some ⟨b, 0, none⟩), .agg #[.pointer none, .iface 229 (.pointer (some ⟨kb, 0, none⟩)), .int .i32 0, .nilIface, .int .i32 0, iv, .int .i32 0, .slice (some ⟨D, 0, none⟩) n n, .int .i32 0, .int .i32 0, .int .u8 1, .int .u8 fl], .agg #[.bool x, .bool y, .bool false]] w fun e w' => e = .returned (.agg #[.pointer (some ⟨kb, 0, none⟩), .slice none 0 0, .slice none 0 0, .bool false, .bool true, .bool false, .bool false, .bool false, .bool false]) ∧ Below w.heap.size w w' := by
  have HP := Lib.hid hp
  have HF := Lib.hid (has fl cm hf)
  obtain ⟨gg, cap, h23, h26, h32, h106, h7, h8⟩ := hp
  obtain ⟨c2, k9, k10⟩ := hc
  have lb : b < w.heap.size := World.block_lt_of_cell? _ _ h23
  have lc : c < w.heap.size := World.block_lt_of_cell? _ _ c2
  have lk : k < w.heap.size := World.block_lt_of_cell? _ _ k9
  have lb1 : b < w.heap.size + 1 := by omega
  have lc1 : c < w.heap.size + 1 := by omega
  have lk1 : k < w.heap.size + 1 := by omega
  have lb2 : b < w.heap.size + 1 + 1 := by omega
  have lc2 : c < w.heap.size + 1 + 1 := by omega
  have lk2 : k < w.heap.size + 1 + 1 := by omega
  clear h106 h7 h8 hf
  rcases hiv with rfl | ⟨q, rfl⟩
  all_goals
    have HN := Lib.hid (fun (W : World) (hW : Below w.heap.size w W) => needLow b kb false ex pf hpf W (HP.out.keep hW) (kept hW hk))
    clear hk
    go_enter Tryd.func26, Tryd.ntmps26
    go_wp2_with fail
    refine (HN.out _ (by repeat (first | with_reducible exact Below.refl _ _ | (with_reducible refine Below.drew ?_) | (with_reducible refine Below.alloc ?_ (by simp; try omega) _) | (with_reducible refine Below.setCell ?_ (by simp; try omega) _)))).mono ?_
    rintro e w1 ⟨r, rfl, hb1⟩
    have HB := Lib.hid (show Below w.heap.size w w1 from ((by repeat (first | with_reducible exact Below.refl _ _ | (with_reducible refine Below.drew ?_) | (with_reducible refine Below.alloc ?_ (by simp; try omega) _) | (with_reducible refine Below.setCell ?_ (by simp; try omega) _))) : Below w.heap.size w _).trans (hb1.mono (by simp; omega)))
    have q23 := kept HB.out h23
    have q26 := kept HB.out h26
    have q32 := kept HB.out h32
    have qc2 := kept HB.out c2
    have qk9 := kept HB.out k9
    have qk10 := kept HB.out k10
    have a0 : w1.cell? ⟨w.heap.size, 0, none⟩ = some (.pointer none) := kept hb1 (by simp [go_sem])
    have a1 : w1.cell? ⟨w.heap.size, 1, none⟩ = some (.iface 229 (.pointer (some ⟨kb, 0, none⟩))) := kept hb1 (by simp [go_sem])
    have a2 : w1.cell? ⟨w.heap.size, 2, none⟩ = some (.int .i32 0) := kept hb1 (by simp [go_sem])
    have a3 : w1.cell? ⟨w.heap.size, 3, none⟩ = some .nilIface := kept hb1 (by simp [go_sem])
    have a4 : w1.cell? ⟨w.heap.size, 4, none⟩ = some (.int .i32 0) := kept hb1 (by simp [go_sem])
    have a5 := kept (b := w.heap.size) (o := 5) hb1 (by simp [go_sem]; rfl)
    have a6 : w1.cell? ⟨w.heap.size, 6, none⟩ = some (.int .i32 0) := kept hb1 (by simp [go_sem])
    have a7 : w1.cell? ⟨w.heap.size, 7, none⟩ = some (.slice (some ⟨D, 0, none⟩) n n) := kept hb1 (by simp [go_sem])
    have a8 : w1.cell? ⟨w.heap.size, 8, none⟩ = some (.int .i32 0) := kept hb1 (by simp [go_sem])
    have a9 : w1.cell? ⟨w.heap.size, 9, none⟩ = some (.int .i32 0) := kept hb1 (by simp [go_sem])
    have a10 : w1.cell? ⟨w.heap.size, 10, none⟩ = some (.int .u8 1) := kept hb1 (by simp [go_sem])
    have a11 : w1.cell? ⟨w.heap.size, 11, none⟩ = some (.int .u8 fl) := kept hb1 (by simp [go_sem])
    have b0 : w1.cell? ⟨w.heap.size + 1, 0, none⟩ = some (.bool x) := kept hb1 (by simp [go_sem])
    have b1 : w1.cell? ⟨w.heap.size + 1, 1, none⟩ = some (.bool y) := kept hb1 (by simp [go_sem])
    have b2 : w1.cell? ⟨w.heap.size + 1, 2, none⟩ = some (.bool false) := kept hb1 (by simp [go_sem])
    have d0 : w1.cell? ⟨w.heap.size + 1 + 1, 0, none⟩ = some (.pointer (some ⟨kb, 0, none⟩)) := kept hb1 (by simp [go_sem])
    have e0 : w1.frozen? ⟨w.heap.size + 1 + 1, 0, none⟩ = false := keptF hb1 (o := 0) (v := (.pointer (some ⟨kb, 0, none⟩))) (by simp [go_sem]) (by simp [go_sem])
    have d1 : w1.cell? ⟨w.heap.size + 1 + 1, 1, none⟩ = some (.slice none 0 0) := kept hb1 (by simp [go_sem])
    have e1 : w1.frozen? ⟨w.heap.size + 1 + 1, 1, none⟩ = false := keptF hb1 (o := 1) (v := (.slice none 0 0)) (by simp [go_sem]) (by simp [go_sem])
    have d2 : w1.cell? ⟨w.heap.size + 1 + 1, 2, none⟩ = some (.slice none 0 0) := kept hb1 (by simp [go_sem])
    have e2 : w1.frozen? ⟨w.heap.size + 1 + 1, 2, none⟩ = false := keptF hb1 (o := 2) (v := (.slice none 0 0)) (by simp [go_sem]) (by simp [go_sem])
    have d3 : w1.cell? ⟨w.heap.size + 1 + 1, 3, none⟩ = some (.bool false) := kept hb1 (by simp [go_sem])
    have e3 : w1.frozen? ⟨w.heap.size + 1 + 1, 3, none⟩ = false := keptF hb1 (o := 3) (v := (.bool false)) (by simp [go_sem]) (by simp [go_sem])
    have d4 : w1.cell? ⟨w.heap.size + 1 + 1, 4, none⟩ = some (.bool false) := kept hb1 (by simp [go_sem])
    have e4 : w1.frozen? ⟨w.heap.size + 1 + 1, 4, none⟩ = false := keptF hb1 (o := 4) (v := (.bool false)) (by simp [go_sem]) (by simp [go_sem])
    have d5 : w1.cell? ⟨w.heap.size + 1 + 1, 5, none⟩ = some (.bool false) := kept hb1 (by simp [go_sem])
    have e5 : w1.frozen? ⟨w.heap.size + 1 + 1, 5, none⟩ = false := keptF hb1 (o := 5) (v := (.bool false)) (by simp [go_sem]) (by simp [go_sem])
    have d6 : w1.cell? ⟨w.heap.size + 1 + 1, 6, none⟩ = some (.bool false) := kept hb1 (by simp [go_sem])
    have e6 : w1.frozen? ⟨w.heap.size + 1 + 1, 6, none⟩ = false := keptF hb1 (o := 6) (v := (.bool false)) (by simp [go_sem]) (by simp [go_sem])
    have d7 : w1.cell? ⟨w.heap.size + 1 + 1, 7, none⟩ = some (.bool false) := kept hb1 (by simp [go_sem])
    have e7 : w1.frozen? ⟨w.heap.size + 1 + 1, 7, none⟩ = false := keptF hb1 (o := 7) (v := (.bool false)) (by simp [go_sem]) (by simp [go_sem])
    have d8 : w1.cell? ⟨w.heap.size + 1 + 1, 8, none⟩ = some (.bool false) := kept hb1 (by simp [go_sem])
    have e8 : w1.frozen? ⟨w.heap.size + 1 + 1, 8, none⟩ = false := keptF hb1 (o := 8) (v := (.bool false)) (by simp [go_sem]) (by simp [go_sem])
    clear hb1 h23 h26 h32 c2 k9 k10 HN
    go_wp2_with (first | (go_at_call 33; refine (isMethod _).mono ?_; rintro e w' ⟨rfl, rfl⟩) | (go_at_call 34; refine (HF.out _).mono ?_; rintro e w' ⟨rfl, rfl⟩))
    all_goals
      exact bodyPost_ret (v := .agg #[.pointer (some ⟨kb, 0, none⟩), .slice none 0 0, .slice none 0 0, .bool false, .bool true, .bool false, .bool false, .bool false, .bool false]) (by simp [results, Tryd.results26, go_sem, *]) rfl ⟨rfl, (by repeat (first | with_reducible exact HB.out | (with_reducible refine Below.setCell ?_ (by simp; try omega) _)))⟩
end Go.Proofs.YtjnffbnipjkibaaDoor
