/- Proved here: the small contracts of the law on distinct hashes. Conditions as stated. -/
import Derived.Test.YtjlmaingeobgeaaDoorDKB
import Derived.Test.YtjlmaingeobgeaaDoorOPN
import Derived.WalkKit
import Derived.WalkSpells
import Derived.WalkLawsBesides
import Derived.Lib.Hide
import Derived.Lib.SliceRun
import Derived.Deep.RegionWith
import Derived.OwnWalk
import Derived.Laws.OwnMore
import Derived.Deep.QuietTactic
import Derived.BigQuiet
import Derived.BigRegion
namespace Go.Proofs.YtjlmaingeobgeaaDoor
open Go.RowKit
set_option linter.unusedSimpArgs false
set_option linter.unusedVariables false

theorem rowv_floats {w : World} {a : Option Addr} {len cap : Nat} {zs : List Nat} (h : IsFloats .f64 w a len cap zs) : RowV w a len (fun i => .float .f64 (zs.getD i 0)) := by
  intro hp
  rcases h with ⟨_, rfl, _⟩ | ⟨x, rfl, hl, hm, hz, hcell, _⟩
  · omega
  · obtain ⟨b, off, rfl⟩ := spot_none (hcell 0 (by omega))
    exact ⟨b, off, rfl, fun i hi => by rw [← add_none]; exact hcell i (by omega)⟩
theorem len_floats {w : World} {a : Option Addr} {len cap : Nat} {zs : List Nat} (h : IsFloats .f64 w a len cap zs) : len ≤ maxLen ∧ ∀ i, (Lit.float .f64 (zs.getD i 0)).wf = true := by
  rcases h with ⟨_, rfl, _, rfl⟩ | ⟨x, rfl, hl, hm, hz, hcell, hw⟩
  · exact ⟨by unfold maxLen; omega, fun i => by simp [Lit.wf]⟩
  · refine ⟨by omega, fun i => ?_⟩
    by_cases hi : i < zs.length
    · exact hw _ (by simp [List.getD, hi])
    · simp [List.getD, hi, Lit.wf]
theorem wf_f64 {x : Nat} (h : (Lit.float .f64 x).wf = true) : x < 18446744073709551616 := by simpa [Lit.wf] using h

@[go_sem] theorem run_store_float {P : Program} {w : World} {a : Addr} {m : Mode} (k : FloatKind) (b : Nat) : (store a (.float k b) m).run P w = stored P w a (.float k b) m := run_store P w a _ m rfl

/-- What the copy 'cpF' hands back of a slice that is not nil. -/
def cpFPost (len : Nat) (zs : List Nat) (w : World) (e : Ending) (w' : World) : Prop :=
  ∃ cs, e = .returned (.slice (some ⟨w.heap.size, 0, none⟩) len len) ∧ At w' w.heap.size 37 cs ∧ cs.size = len ∧ (∀ i, i < len → cs[i]? = some (.float .f64 (zs.getD i 0))) ∧ Below w.heap.size w w'
def cpFRel (len : Nat) (zs : List Nat) (w : World) (i : Value) (wr : World) : Prop :=
  ∃ (k : Nat) (cs : Array Value), k ≤ len ∧ i = .int .i64 k ∧ At wr w.heap.size 37 cs ∧ cs.size = len ∧ (∀ j, j < k → cs[j]? = some (.float .f64 (zs.getD j 0))) ∧ Below w.heap.size w wr
theorem cpF_nil (w : World) : Calls Tryd.prog 10 #[.slice none 0 0] w fun e w' => e = .returned (.slice none 0 0) ∧ w = w' := by
  have qT : ∀ (w : World) (a : Option Addr) (n c n' c' : Nat), (binOp .eql 22 (.slice a n c) (.slice none n' c')).run Tryd.prog w = .ok (.bool a.isNone) w := fun w a n c n' c' => Lib.run_eql_slice_nil w 22 37 a n c n' c' Tryd.underlying22
  go_enter Tryd.func10, Tryd.ntmps10
  go_wp2_with fail
  go_ret
  exact ⟨rfl, rfl⟩
set_option maxRecDepth 100000 in
set_option maxHeartbeats 1000000 in
theorem cpF_some (x : Addr) (len cap : Nat) (zs : List Nat) (w : World) (hz : len ≤ zs.length) (hcell : ∀ i, i < zs.length → w.cell? (x.add i) = some (.float .f64 (zs.getD i 0))) (hlen : len ≤ 1048576) :
    Calls Tryd.prog 10 #[.slice (some x) len cap] w (cpFPost len zs w) := by
  have qT : ∀ (w : World) (a : Option Addr) (n c n' c' : Nat), (binOp .eql 22 (.slice a n c) (.slice none n' c')).run Tryd.prog w = .ok (.bool a.isNone) w := fun w a n c n' c' => Lib.run_eql_slice_nil w 22 37 a n c n' c' Tryd.underlying22
  have hmk := made (P := Tryd.prog) (t := 22) (e := 37) (z := .float .f64 0) (sz := 1) (by_ := 8) Tryd.underlying22 (by kernel_rfl) w len (by omega) (by omega)
  rw [Nat.mul_one] at hmk
  have HC := Lib.hid hcell
  clear hcell
  go_enter Tryd.func10, Tryd.ntmps10
  go_wp2_with fail
  go_loopw [4] (fun i wr => cpFRel len zs w i wr) (fun i _ => len - (intOf i).toNat)
  case atStart => exact ⟨0, _, Nat.zero_le _, rfl, At.new _ _ _, by simp [size_madeCells, Value.cells], fun j hj => absurd hj (by omega), (Below.refl _ _).alloc (Nat.le_refl _) _⟩
  case round =>
    obtain ⟨k, cs, hk, rfl, hat, hsz, hcs, hb⟩ := hrel
    by_cases hlt : k < len
    · have hc := HC.out k (by omega)
      obtain ⟨b, off, rfl⟩ := spot_none (HC.out 0 (by omega))
      rw [add_none] at hc
      have hc1 : wr.cell? ⟨b, off + k, none⟩ = some (.float .f64 (zs.getD k 0)) := by
        exact kept hb hc
      have hd : wr.cell? ⟨w.heap.size, k, none⟩ = some cs[k] := by rw [hat.cell k]; simp [hsz, hlt]
      have hf := hat.frozen k
      clear hc
      have HAT := Lib.hid hat
      have HCS := Lib.hid hcs
      have HSZ := Lib.hid hsz
      clear hat hcs
      go_wp2_with fail
      go_roundw
      case rel =>
        refine ⟨k + 1, _, by omega, by go_num, HAT.out.set k _, by simp [HSZ.out], ?_, hb.setCell (Nat.le_refl _) _⟩
        intro j hj
        by_cases e : j = k
        · subst e; simp [HSZ.out, hlt]
        · rw [Array.getElem?_setIfInBounds_ne (by omega)]; exact HCS.out j (by omega)
      case measure => simp [intOf]; omega
    · have e : k = len := by omega
      subst e
      have HAT := Lib.hid hat
      have HCS := Lib.hid hcs
      have HSZ := Lib.hid hsz
      clear hat hcs hsz
      go_wp2_with fail
      go_ret
      exact ⟨cs, rfl, HAT.out, HSZ.out, HCS.out, hb⟩

theorem cpF_any (a : Option Addr) (len cap : Nat) (zs : List Nat) (w : World) (h : IsFloats .f64 w a len cap zs) (hlen : len ≤ 1048576) :
    Calls Tryd.prog 10 #[.slice a len cap] w (ClonedV len (fun i => .float .f64 (zs.getD i 0)) w) := by
  rcases h with ⟨rfl, rfl, rfl, rfl⟩ | ⟨x, rfl, hl, hm, hz, hcell, hwz⟩
  · refine (cpF_nil w).mono ?_
    rintro e w' ⟨rfl, rfl⟩
    exact ⟨none, 0, rfl, fun h => absurd h (by omega), Below.refl _ _⟩
  · refine (cpF_some x len cap zs w (by omega) hcell hlen).mono ?_
    rintro e w' ⟨cs, rfl, hat, hsz, hcs, hb⟩
    exact ⟨_, _, rfl, fun _ => ⟨w.heap.size, 0, rfl, fun i hi => by rw [hat.cell, Nat.zero_add]; exact hcs i hi⟩, hb⟩

theorem bytes8 (a : Option Addr) (n c : Nat) (w : World) (h : n ≤ maxLen) : Calls Tryd.prog 8 #[.slice a n c] w fun e w' => (∃ b, e = .returned (.bool b)) ∧ w = w' := by
  unfold maxLen at h
  by_cases hb : 1048576 < n
  · go_enter Tryd.func8, Tryd.ntmps8
    go_wp2_with fail
    go_ret
    exact ⟨⟨_, rfl⟩, rfl⟩
  · go_enter Tryd.func8, Tryd.ntmps8
    go_wp2_with fail
    go_ret
    exact ⟨⟨_, rfl⟩, rfl⟩
def fAt (zs : List Nat) (i : Nat) : Nat := zs.getD i 0
def ne (zs : List Nat) (i j : Nat) : Prop := FloatKind.f64.format.order (fAt zs i) (fAt zs j) ≠ some .eq
def DI (n : Nat) (zs : List Nat) (w : World) (i : Value) (wr : World) : Prop := ∃ k : Nat, k ≤ n ∧ i = .int .i64 k ∧ (∃ q, wr = w.drewN q) ∧ Hid (∀ s t, s < k → s < t → t < n → ne zs s t)
def DJ (n : Nat) (zs : List Nat) (k : Nat) (w : World) (j : Value) (wr : World) : Prop := ∃ m : Nat, k < m ∧ m ≤ n ∧ j = .int .i64 m ∧ (∃ q, wr = w.drewN q) ∧ Hid (∀ t, k < t → t < m → ne zs k t)
theorem RowV.drewN {w : World} {a : Option Addr} {len : Nat} {f : Nat → Value} (h : RowV w a len f) (q : Nat) : RowV (w.drewN q) a len f := h
set_option maxRecDepth 100000 in
set_option maxHeartbeats 1000000 in
theorem dist (a : Option Addr) (n c : Nat) (zs : List Nat) (w : World) (h : RowV w a n (fun i => .float .f64 (fAt zs i))) (hn : n ≤ 1048576) :
    Calls Tryd.prog 9 #[.slice a n c] w fun e w' => (∃ b, e = .returned (.bool b) ∧ (b = true → ∀ s t, s < t → t < n → ne zs s t)) ∧ ∃ q, w' = w.drewN q := by
  have H := Lib.hid h
  clear h
  go_enter Tryd.func9, Tryd.ntmps9
  go_wp2_with fail
  go_loopw [3] (fun i wr => DI n zs w i wr) (fun i _ => n - (intOf i).toNat)
  case atStart => exact ⟨0, by omega, rfl, ⟨0, rfl⟩, Lib.hid (fun s t hs _ _ => absurd hs (by omega))⟩
  case round =>
    obtain ⟨k, hk, rfl, ⟨q, rfl⟩, HA⟩ := hrel
    by_cases hlt : k < n
    · obtain ⟨W, hW⟩ : ∃ W, W = w.drewN q := ⟨_, rfl⟩
      rw [← hW]
      have HW := Lib.hid hW
      clear hW
      go_wp2_with fail
      go_loopw [4] (fun j wr => DJ n zs k w j wr) (fun j _ => n - (intOf j).toNat)
      case atStart => exact ⟨k + 1, by omega, by omega, by go_num, ⟨q, HW.out⟩, Lib.hid (fun t h1 h2 => absurd h1 (by omega))⟩
      case round =>
        obtain ⟨m, hkm, hm, rfl, ⟨q2, hq2⟩, HB⟩ := hrel
        by_cases hlt2 : m < n
        · have R := H.out.drewN q2
          rw [← hq2] at R
          obtain ⟨B, off, rfl, hc⟩ := R (by omega)
          have c0 := hc k hlt
          have c1 := hc m hlt2
          have lB := World.block_lt_of_cell? _ _ c0
          have HQ := Lib.hid hq2
          obtain ⟨x, hx⟩ : ∃ x, x = fAt zs k := ⟨_, rfl⟩
          obtain ⟨y, hy⟩ : ∃ y, y = fAt zs m := ⟨_, rfl⟩
          simp only [← hx] at c0
          simp only [← hy] at c1
          have HX := Lib.hid hx
          have HY := Lib.hid hy
          clear hc hx hy hq2 R
          by_cases he : FloatKind.f64.format.order x y = some .eq
          · have e1 : (FloatKind.f64.format.order x y == some .eq) = true := by rw [he]; rfl
            clear he
            go_wp2_with fail
            go_quiet (fail)
            go_wp2_with fail
            go_ret
            exact ⟨⟨false, rfl, fun h => by cases h⟩, by have := HQ.out; subst this; exact ⟨_, World.drewN_drewN _ _ _⟩⟩
          · have e1 : (FloatKind.f64.format.order x y == some .eq) = false := beq_false_of_ne he
            have N1 := Lib.hid (show ∀ t, k < t → t < m + 1 → ne zs k t from fun t h1 h2 => by
              by_cases e : t = m
              · subst e
                unfold ne
                rw [← HX.out, ← HY.out]; exact he
              · exact HB.out t h1 (by omega))
            clear he
            go_wp2_with fail
            go_quiet (fail)
            go_wp2_with fail
            go_roundw
            case rel => exact ⟨m + 1, by omega, by omega, by go_num, by have := HQ.out; subst this; exact ⟨_, World.drewN_drewN _ _ _⟩, N1⟩
            case measure => simp [intOf]; omega
        · have e : m = n := by omega
          subst e
          have HQ := Lib.hid hq2
          clear hq2
          have N1 := Lib.hid (show ∀ s t, s < k + 1 → s < t → t < m → ne zs s t from fun s t h1 h2 h3 => by
            by_cases e : s = k
            · subst e; exact HB.out t h2 h3
            · exact HA.out s t (by omega) h2 h3)
          go_wp2_with fail
          go_roundw
          case rel => exact ⟨k + 1, by omega, by go_num, ⟨q2, HQ.out⟩, N1⟩
          case measure => simp [intOf]; omega
    · have e : k = n := by omega
      subst e
      go_wp2_with fail
      go_ret
      exact ⟨⟨true, rfl, fun _ s t h1 h2 => HA.out s t (by omega) h1 h2⟩, ⟨q, rfl⟩⟩
def NP (x : Nat) (W : World) (e : Ending) (w' : World) : Prop := ∃ p, e = .returned (.agg #[.iface 212 (.pointer (some ⟨p, 0, none⟩)), .int .i32 0]) ∧ At w' p 214 #[.float .f64 x] ∧ W.heap.size ≤ p ∧ Below W.heap.size W w'
theorem mkN (x : Nat) (w : World) : Calls Tryd.prog 14 #[.float .f64 x] w (NP x w) := by
  go_enter Tryd.func14, Tryd.ntmps14
  go_wp2_with fail
  exact bodyPost_ret (v := .agg #[.iface 212 (.pointer (some ⟨w.heap.size + 1, 0, none⟩)), .int .i32 0]) (by simp [results, Tryd.results14, go_sem]) rfl ⟨w.heap.size + 1, rfl, by
    have := At.new (w.alloc (.cells #[.iface 212 (.pointer (some ⟨w.heap.size + 1, 0, none⟩)), .int .i32 0] 35)) 214 #[.float .f64 x]
    rwa [show (w.alloc (.cells #[.iface 212 (.pointer (some ⟨w.heap.size + 1, 0, none⟩)), .int .i32 0] 35)).heap.size = w.heap.size + 1 from by simp] at this, by omega, (by repeat (first | with_reducible exact Below.refl _ _ | (with_reducible refine Below.drew ?_) | (with_reducible refine Below.alloc ?_ (by simp; try omega) _) | (with_reducible refine Below.setCell ?_ (by simp; try omega) _)))⟩
theorem zhash (T q h : Nat) (w : World) (H : ∀ W', Below w.heap.size w W' → Calls Tryd.prog 47 #[.agg #[.iface T (.pointer (some ⟨q, 0, none⟩)), .int .i32 0]] W' fun e w' => e = .returned (.tuple #[.int .u32 (h : Int), .bool true]) ∧ Below W'.heap.size W' w') :
    Calls Tryd.prog 15 #[.agg #[.iface T (.pointer (some ⟨q, 0, none⟩)), .int .i32 0]] w fun e w' => e = .returned (.tuple #[.int .u32 (h : Int), .bool true]) ∧ Below w.heap.size w w' := by
  have HH := Lib.hid H
  clear H
  go_enter Tryd.func15, Tryd.ntmps15
  go_wp2_with fail
  refine (HH.out _ (by repeat (first | with_reducible exact Below.refl _ _ | (with_reducible refine Below.drew ?_) | (with_reducible refine Below.alloc ?_ (by simp; try omega) _) | (with_reducible refine Below.setCell ?_ (by simp; try omega) _)))).mono ?_
  rintro e w1 ⟨rfl, hb⟩
  have B1 := Lib.hid (show Below w.heap.size w w1 from ((by repeat (first | with_reducible exact Below.refl _ _ | (with_reducible refine Below.drew ?_) | (with_reducible refine Below.alloc ?_ (by simp; try omega) _) | (with_reducible refine Below.setCell ?_ (by simp; try omega) _))) : Below w.heap.size w _).trans (hb.mono (by simp)))
  clear hb
  go_wp2_with fail
  go_ret2
  exact ⟨rfl, B1.out⟩
theorem ckHash (D : Nat) (a : Option Addr) (n c g : Nat) (w : World) (i : Nat) (h : Nat) (ha : a = some ⟨g, 0, none⟩) (hD : w.cell? ⟨D, 0, none⟩ = some (.slice a n c)) (hi : i < n) (hn : n ≤ 1048576) (hc : w.cell? ⟨g, i * 3 + 2, none⟩ = some (.int .u32 (h : Int))) :
    Calls Tryd.prog 17 #[.pointer (some ⟨D, 0, none⟩), .int .i64 (i : Int)] w fun e w' => e = .returned (.int .u32 (h : Int)) ∧ w = w' := by
  subst ha
  have lD := World.block_lt_of_cell? _ _ hD
  have lg := World.block_lt_of_cell? _ _ hc
  go_enter Tryd.func17, Tryd.ntmps17
  go_wp2_with fail
  go_ret
  exact ⟨rfl, rfl⟩
theorem ckCount (D : Nat) (a : Option Addr) (n c : Nat) (w : World) (hD : w.cell? ⟨D, 0, none⟩ = some (.slice a n c)) :
    Calls Tryd.prog 16 #[.pointer (some ⟨D, 0, none⟩)] w fun e w' => e = .returned (.int .i64 (n : Int)) ∧ w = w' := by
  have lD := World.block_lt_of_cell? _ _ hD
  go_enter Tryd.func16, Tryd.ntmps16
  go_wp2_with fail
  go_ret
  exact ⟨rfl, rfl⟩
theorem zcheck (lo D P : Nat) (v : Value) (its : List (Nat × Nat)) (f : Nat → Nat) (T k q : Nat) (W : World) (H : ∀ W', Below W.heap.size W W' → Calls Tryd.prog 46 #[.pointer (some ⟨D, 0, none⟩), .pointer (some ⟨P, 0, none⟩), .agg #[.iface T (.pointer (some ⟨q, 0, none⟩)), .int .i32 0]] W' (CP lo D v its f T k q W')) (hlo : lo ≤ W.heap.size) :
    Calls Tryd.prog 13 #[.pointer (some ⟨D, 0, none⟩), .pointer (some ⟨P, 0, none⟩), .agg #[.iface T (.pointer (some ⟨q, 0, none⟩)), .int .i32 0]] W (CP lo D v its f T k q W) := by
  have HH := Lib.hid H
  clear H
  go_enter Tryd.func13, Tryd.ntmps13
  go_wp2_with fail
  refine (HH.out _ (by repeat (first | with_reducible exact Below.refl _ _ | (with_reducible refine Below.drew ?_) | (with_reducible refine Below.alloc ?_ (by simp; try omega) _) | (with_reducible refine Below.setCell ?_ (by simp; try omega) _)))).mono ?_
  rintro e w1 ⟨v', rfl, hck, hfr, hb, hv⟩
  have B0 : Below W.heap.size W (W.alloc (.cells #[.iface T (.pointer (some ⟨q, 0, none⟩)), .int .i32 0] 35)) := (by repeat (first | with_reducible exact Below.refl _ _ | (with_reducible refine Below.drew ?_) | (with_reducible refine Below.alloc ?_ (by simp; try omega) _) | (with_reducible refine Below.setCell ?_ (by simp; try omega) _)))
  have E := Lib.hid (show CP lo D v its f T k q W (.returned (.tuple #[])) w1 from ⟨v', rfl, hck, ⟨Nat.le_trans B0.size hfr.1, fun x hx h1 h2 => (hfr.2 x (Nat.lt_of_lt_of_le hx B0.size) h1 h2).trans (B0.block x hx)⟩, (B0.mono hlo).trans hb, by
    rcases hv with hv | hv
    · exact .inl hv
    · exact .inr (fun g hg => (hv g hg).imp id (fun h => Nat.le_trans B0.size h))⟩)
  clear hck hfr hb hv
  go_wp2_with fail
  go_end0
  exact E.out
noncomputable def cz : Array Value := zeroOf Tryd.prog 97
noncomputable def pz : Array Value := zeroOf Tryd.prog 210
theorem wpList_run0 {P : Program} {ops : Array Oper} {rest : List Oper} {o : Oper} {a : Act} {w : World} {Q : Exit → Act → World → Prop} (hgd : o.guard = none) (v : Value)
    (hr : (execOp a.eval o).run P w = .ok (.value v) w) (h : wpList P ops Q rest (a.put o.dst v) w) : wpList P ops Q (o :: rest) a w := wpList_run hgd v w hr h
theorem newCk (f : Nat → Nat) (T lo : Nat) (w : World) (hlo : lo ≤ w.heap.size) : Calls Tryd.prog 11 #[] w fun e w' => e = .returned (.pointer (some ⟨w.heap.size, 0, none⟩)) ∧ CK w' lo w.heap.size (.slice none 0 0) [] f T ∧ Below w.heap.size w w' ∧ w.heap.size < w'.heap.size := by
  go_enter Tryd.func11, Tryd.ntmps11
  go_wp2_with (refine wpList_run0 (o := ⟨some 1, .build 97 #[], _, _, _, _⟩) rfl (.agg cz) ?hr ?_; case hr => kernel_rfl)
  exact bodyPost_ret (v := .pointer (some ⟨w.heap.size, 0, none⟩)) (by simp [results, Tryd.results11, go_sem]) rfl ⟨rfl, ⟨hlo, ⟨cz, fun _ => 0, At.new _ _ _, by kernel_rfl, fun j hj => by
    have h : cz = #[.slice none 0 0] ++ Array.replicate 32 (.int .u8 0) := by kernel_rfl
    rw [h, Array.getElem?_append_right (by simp)]
    simp [hj], fun _ => Nat.zero_le _, fun x hx => by cases hx⟩, ⟨rfl, .inl ⟨rfl, rfl⟩⟩, by simp [Value.ownBlock]⟩, (by repeat (first | with_reducible exact Below.refl _ _ | (with_reducible refine Below.drew ?_) | (with_reducible refine Below.alloc ?_ (by simp; try omega) _) | (with_reducible refine Below.setCell ?_ (by simp; try omega) _))), by simp⟩
theorem newPr (w : World) : Calls Tryd.prog 12 #[] w fun e w' => e = .returned (.pointer (some ⟨w.heap.size, 0, none⟩)) ∧ Below w.heap.size w w' := by
  go_enter Tryd.func12, Tryd.ntmps12
  go_wp2_with (refine wpList_run0 (o := ⟨some 1, .build 210 #[], _, _, _, _⟩) rfl (.agg pz) ?hr ?_; case hr => kernel_rfl)
  exact bodyPost_ret (v := .pointer (some ⟨w.heap.size, 0, none⟩)) (by simp [results, Tryd.results12, go_sem]) rfl ⟨rfl, (by repeat (first | with_reducible exact Below.refl _ _ | (with_reducible refine Below.drew ?_) | (with_reducible refine Below.alloc ?_ (by simp; try omega) _) | (with_reducible refine Below.setCell ?_ (by simp; try omega) _)))⟩

set_option maxRecDepth 100000 in
set_option maxHeartbeats 1000000 in
theorem eqN (p q x y : Nat) (w : World) (h1 : w.cell? ⟨p, 0, none⟩ = some (.float .f64 x)) (h2 : w.cell? ⟨q, 0, none⟩ = some (.float .f64 y)) (hne : FloatKind.f64.format.order x y ≠ some .eq) :
    Calls Tryd.prog 55 #[.agg #[.iface 212 (.pointer (some ⟨p, 0, none⟩)), .int .i32 0], .agg #[.iface 212 (.pointer (some ⟨q, 0, none⟩)), .int .i32 0]] w fun e w' => e = .returned (.tuple #[.bool false, .bool false]) ∧ Below w.heap.size w w' := by
  have e1 : (FloatKind.f64.format.order x y == some .eq) = false := beq_false_of_ne hne
  have lp : p < w.heap.size := World.block_lt_of_cell? _ _ h1
  have lq : q < w.heap.size := World.block_lt_of_cell? _ _ h2
  have lp1 : p < w.heap.size + 1 := by omega
  have lq1 : q < w.heap.size + 1 := by omega
  have lp2 : p < w.heap.size + 1 + 1 := by omega
  have lq2 : q < w.heap.size + 1 + 1 := by omega
  go_enter Tryd.func55, Tryd.ntmps55
  go_wp2_with fail
  go_region
  all_goals
    go_wp2_with fail
    go_ret2
    exact ⟨rfl, (by repeat (first | with_reducible exact Below.refl _ _ | (with_reducible refine Below.drew ?_) | (with_reducible refine below_drewN ?_ _) | (with_reducible refine Below.alloc ?_ (by simp; try omega) _)))⟩
end Go.Proofs.YtjlmaingeobgeaaDoor
