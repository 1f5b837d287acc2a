/- Proved here: contracts of the law's own helpers that build a chain (zzLeaf, zzChain) and test it (zzTransparent), and of the copy of a slice of uint16. Conditions as stated. -/
import Derived.Test.YtaipmmfkideobaaChain
import Derived.WalkKit
import Derived.WalkSpells
import Derived.WalkLawsBesides
import Derived.Lib.Hide
import Derived.Lib.SliceRun
namespace Go.Proofs.Ytaipmmfkideobaa
open Go.RowKit
set_option linter.unusedSimpArgs false
set_option linter.unusedVariables false

/-- What the copy 'cloneC' hands back of a slice that is not nil. -/
def cloneCPost (len : Nat) (zs : List Int) (w : World) (e : Ending) (w' : World) : Prop :=
  ∃ cs, e = .returned (.slice (some ⟨w.heap.size, 0, none⟩) len len) ∧ At w' w.heap.size 139 cs ∧ cs.size = len ∧ (∀ i, i < len → cs[i]? = some (.int .u16 (zs.getD i 0))) ∧ Below w.heap.size w w'
def cloneCRel (len : Nat) (zs : List Int) (w : World) (i : Value) (wr : World) : Prop :=
  ∃ (k : Nat) (cs : Array Value), k ≤ len ∧ i = .int .i64 k ∧ At wr w.heap.size 139 cs ∧ cs.size = len ∧ (∀ j, j < k → cs[j]? = some (.int .u16 (zs.getD j 0))) ∧ Below w.heap.size w wr
theorem cloneC_nil (w : World) : Calls Try.prog 16 #[.slice none 0 0] w fun e w' => e = .returned (.slice none 0 0) ∧ w = w' := by
  have qT : ∀ (w : World) (a : Option Addr) (n c n' c' : Nat), (binOp .eql 38 (.slice a n c) (.slice none n' c')).run Try.prog w = .ok (.bool a.isNone) w := fun w a n c n' c' => Lib.run_eql_slice_nil w 38 139 a n c n' c' Try.underlying38
  go_enter Try.func16, Try.ntmps16
  go_wp2_with fail
  go_ret
  exact ⟨rfl, rfl⟩
set_option maxRecDepth 100000 in
set_option maxHeartbeats 1000000 in
theorem cloneC_some (x : Addr) (len cap : Nat) (zs : List Int) (w : World) (hz : len ≤ zs.length) (hcell : ∀ i, i < zs.length → w.cell? (x.add i) = some (.int .u16 (zs.getD i 0))) (hlen : len ≤ 1048576) :
    Calls Try.prog 16 #[.slice (some x) len cap] w (cloneCPost len zs w) := by
  have qT : ∀ (w : World) (a : Option Addr) (n c n' c' : Nat), (binOp .eql 38 (.slice a n c) (.slice none n' c')).run Try.prog w = .ok (.bool a.isNone) w := fun w a n c n' c' => Lib.run_eql_slice_nil w 38 139 a n c n' c' Try.underlying38
  have hmk := made (P := Try.prog) (t := 38) (e := 139) (z := .int .u16 0) (sz := 1) (by_ := 2) Try.underlying38 (by kernel_rfl) w len (by omega) (by omega)
  rw [Nat.mul_one] at hmk
  have HC := Lib.hid hcell
  clear hcell
  go_enter Try.func16, Try.ntmps16
  go_wp2_with fail
  go_loopw [4] (fun i wr => cloneCRel len zs w i wr) (fun i _ => len - (intOf i).toNat)
  case atStart => exact ⟨0, _, Nat.zero_le _, rfl, At.new _ _ _, by simp [size_madeCells, Value.cells], fun j hj => absurd hj (by omega), (Below.refl _ _).alloc (Nat.le_refl _) _⟩
  case round =>
    obtain ⟨k, cs, hk, rfl, hat, hsz, hcs, hb⟩ := hrel
    by_cases hlt : k < len
    · have hc := HC.out k (by omega)
      obtain ⟨b, off, rfl⟩ := spot_none (HC.out 0 (by omega))
      rw [add_none] at hc
      have hc1 : wr.cell? ⟨b, off + k, none⟩ = some (.int .u16 (zs.getD k 0)) := by
        exact kept hb hc
      have hd : wr.cell? ⟨w.heap.size, k, none⟩ = some cs[k] := by rw [hat.cell k]; simp [hsz, hlt]
      have hf := hat.frozen k
      clear hc
      have HAT := Lib.hid hat
      have HCS := Lib.hid hcs
      have HSZ := Lib.hid hsz
      clear hat hcs
      go_wp2_with fail
      go_roundw
      case rel =>
        refine ⟨k + 1, _, by omega, by go_num, HAT.out.set k _, by simp [HSZ.out], ?_, hb.setCell (Nat.le_refl _) _⟩
        intro j hj
        by_cases e : j = k
        · subst e; simp [HSZ.out, hlt]
        · rw [Array.getElem?_setIfInBounds_ne (by omega)]; exact HCS.out j (by omega)
      case measure => simp [intOf]; omega
    · have e : k = len := by omega
      subst e
      have HAT := Lib.hid hat
      have HCS := Lib.hid hcs
      have HSZ := Lib.hid hsz
      clear hat hcs hsz
      go_wp2_with fail
      go_ret
      exact ⟨cs, rfl, HAT.out, HSZ.out, HCS.out, hb⟩

theorem cloneC_any (a : Option Addr) (len cap : Nat) (zs : List Int) (w : World) (h : IsRow .u16 w a len cap zs) (hlen : len ≤ 1048576) :
    Calls Try.prog 16 #[.slice a len cap] w (Cloned .u16 a len zs w) := by
  rcases h with ⟨rfl, rfl, rfl, rfl⟩ | ⟨x, rfl, hl, hm, hz, hcell, hwz⟩
  · refine (cloneC_nil w).mono ?_
    rintro e w' ⟨rfl, rfl⟩
    exact ⟨none, 0, rfl, Iff.rfl, ⟨by simp, fun h => absurd h (by omega)⟩, Below.refl _ _⟩
  · refine (cloneC_some x len cap zs w (by omega) hcell hlen).mono ?_
    rintro e w' ⟨cs, rfl, hat, hsz, hcs, hb⟩
    exact ⟨_, _, rfl, by simp, ⟨by omega, fun _ => ⟨w.heap.size, 0, rfl, fun i hi => by rw [hat.cell, Nat.zero_add]; exact hcs i hi⟩⟩, hb⟩

def LeafPost (n f : Nat) (u : Value) (w : World) (e : Ending) (w' : World) : Prop := ∃ d, e = .returned (.agg #[d, .int .i32 0]) ∧ Leaf w' n f u d ∧ Below w.heap.size w w'

set_option maxRecDepth 100000 in
set_option maxHeartbeats 1000000 in
theorem leaf0 (k : Int) (f : Nat) (a : Option Addr) (len cap : Nat) (w : World) (h0 : 0 ≤ k) (h1 : k ≤ 255) (hk : k % 6 = 0) :
    Calls Try.prog 37 #[.int .u8 k, .float .f64 f, .slice a len cap] w (LeafPost 0 f (.slice a len cap) w) := by
  go_enter Try.func37, Try.ntmps37
  go_wp2_with fail
  exact bodyPost_ret (v := .agg #[.iface 79 (.pointer (some ⟨w.heap.size + 1, 0, none⟩)), .int .i32 0]) (by simp [results, Try.results37, go_sem]) rfl ⟨_, rfl, Or.inl ⟨rfl, _, rfl, by simp [go_sem]⟩, ((Below.refl _ _).alloc (Nat.le_refl _) _).alloc (by simp) _⟩

set_option maxRecDepth 100000 in
set_option maxHeartbeats 1000000 in
theorem leaf1 (k : Int) (f : Nat) (a : Option Addr) (len cap : Nat) (w : World) (h0 : 0 ≤ k) (h1 : k ≤ 255) (hk : k % 6 = 1) :
    Calls Try.prog 37 #[.int .u8 k, .float .f64 f, .slice a len cap] w (LeafPost 1 f (.slice a len cap) w) := by
  go_enter Try.func37, Try.ntmps37
  go_wp2_with fail
  exact bodyPost_ret (v := .agg #[.iface 82 (.pointer (some ⟨w.heap.size + 1, 0, none⟩)), .int .i32 0]) (by simp [results, Try.results37, go_sem]) rfl ⟨_, rfl, Or.inr (Or.inl ⟨rfl, _, rfl, by simp [go_sem]⟩), ((Below.refl _ _).alloc (Nat.le_refl _) _).alloc (by simp) _⟩

set_option maxRecDepth 100000 in
set_option maxHeartbeats 1000000 in
theorem leaf2 (k : Int) (f : Nat) (a : Option Addr) (len cap : Nat) (w : World) (h0 : 0 ≤ k) (h1 : k ≤ 255) (hk : k % 6 = 2) :
    Calls Try.prog 37 #[.int .u8 k, .float .f64 f, .slice a len cap] w (LeafPost 2 f (.slice a len cap) w) := by
  go_enter Try.func37, Try.ntmps37
  go_wp2_with fail
  exact bodyPost_ret (v := .agg #[.iface 93 (.pointer (some ⟨w.heap.size + 1, 0, none⟩)), .int .i32 0]) (by simp [results, Try.results37, go_sem]) rfl ⟨_, rfl, Or.inr (Or.inr ⟨by omega, Or.inr ⟨_, _, rfl, by decide, by decide, by decide, by decide⟩⟩), ((Below.refl _ _).alloc (Nat.le_refl _) _).alloc (by simp) _⟩

set_option maxRecDepth 100000 in
set_option maxHeartbeats 1000000 in
theorem leaf3 (k : Int) (f : Nat) (a : Option Addr) (len cap : Nat) (w : World) (h0 : 0 ≤ k) (h1 : k ≤ 255) (hk : k % 6 = 3) :
    Calls Try.prog 37 #[.int .u8 k, .float .f64 f, .slice a len cap] w (LeafPost 3 f (.slice a len cap) w) := by
  go_enter Try.func37, Try.ntmps37
  go_wp2_with fail
  exact bodyPost_ret (v := .agg #[.iface 85 (.pointer (some ⟨w.heap.size + 1, 0, none⟩)), .int .i32 0]) (by simp [results, Try.results37, go_sem]) rfl ⟨_, rfl, Or.inr (Or.inr ⟨by omega, Or.inr ⟨_, _, rfl, by decide, by decide, by decide, by decide⟩⟩), ((Below.refl _ _).alloc (Nat.le_refl _) _).alloc (by simp) _⟩

set_option maxRecDepth 100000 in
set_option maxHeartbeats 1000000 in
theorem leaf4 (k : Int) (f : Nat) (a : Option Addr) (len cap : Nat) (w : World) (h0 : 0 ≤ k) (h1 : k ≤ 255) (hk : k % 6 = 4) :
    Calls Try.prog 37 #[.int .u8 k, .float .f64 f, .slice a len cap] w (LeafPost 4 f (.slice a len cap) w) := by
  go_enter Try.func37, Try.ntmps37
  go_wp2_with fail
  exact bodyPost_ret (v := .agg #[.iface 88 (.pointer (some ⟨w.heap.size + 1, 0, none⟩)), .int .i32 0]) (by simp [results, Try.results37, go_sem]) rfl ⟨_, rfl, Or.inr (Or.inr ⟨by omega, Or.inr ⟨_, _, rfl, by decide, by decide, by decide, by decide⟩⟩), ((Below.refl _ _).alloc (Nat.le_refl _) _).alloc (by simp) _⟩

set_option maxRecDepth 100000 in
set_option maxHeartbeats 1000000 in
theorem leaf5 (k : Int) (f : Nat) (a : Option Addr) (len cap : Nat) (w : World) (h0 : 0 ≤ k) (h1 : k ≤ 255) (hk : k % 6 = 5) :
    Calls Try.prog 37 #[.int .u8 k, .float .f64 f, .slice a len cap] w (LeafPost 5 f (.slice a len cap) w) := by
  go_enter Try.func37, Try.ntmps37
  go_wp2_with fail
  exact bodyPost_ret (v := .agg #[.nilIface, .int .i32 0]) (by simp [results, Try.results37, go_sem]) rfl ⟨_, rfl, Or.inr (Or.inr ⟨by omega, Or.inl rfl⟩), (Below.refl _ _).alloc (Nat.le_refl _) _⟩

theorem leaf_any (n : Nat) (k : Int) (f : Nat) (a : Option Addr) (len cap : Nat) (w : World) (h0 : 0 ≤ k) (h1 : k ≤ 255) (hn : n < 6) (hk : k % 6 = n) :
    Calls Try.prog 37 #[.int .u8 k, .float .f64 f, .slice a len cap] w (LeafPost n f (.slice a len cap) w) := by
  rcases n with _ | _ | _ | _ | _ | _ | n
  case succ => omega
  · exact leaf0 k f a len cap w h0 h1 (by simpa using hk)
  · exact leaf1 k f a len cap w h0 h1 (by simpa using hk)
  · exact leaf2 k f a len cap w h0 h1 (by simpa using hk)
  · exact leaf3 k f a len cap w h0 h1 (by simpa using hk)
  · exact leaf4 k f a len cap w h0 h1 (by simpa using hk)
  · exact leaf5 k f a len cap w h0 h1 (by simpa using hk)

theorem isE {w : World} {n f : Nat} {u : Value} : ∀ {cs : List Int} {d : Value}, Chain w n f u cs d → d = .nilIface ∨ ∃ t v, d = .iface t v
  | [], _, h => by
    rcases h with ⟨_, b, e, _⟩ | ⟨_, b, e, _⟩ | ⟨_, e | ⟨t, v, e, _⟩⟩
    · exact Or.inr ⟨_, _, e⟩
    · exact Or.inr ⟨_, _, e⟩
    · exact Or.inl e
    · exact Or.inr ⟨_, _, e⟩
  | _ :: _, _, h => by
    rcases h with ⟨_, b, d', e, _⟩ | ⟨_, b, d', e, _⟩ | ⟨_, t, v, e, _⟩
    · exact Or.inr ⟨_, _, e⟩
    · exact Or.inr ⟨_, _, e⟩
    · exact Or.inr ⟨_, _, e⟩
def ChainPost (cs : List Int) (n f : Nat) (u : Value) (w : World) (e : Ending) (w' : World) : Prop := ∃ d, e = .returned (.agg #[d, .int .i32 0]) ∧ Chain w' n f u cs d ∧ Below w.heap.size w w'
/-- Outside blocks C and R, what stood in w stands in w'. -/
def Keeps (C R : Nat) (w w' : World) : Prop := ∀ b o v, b ≠ C → b ≠ R → w.cell? ⟨b, o, none⟩ = some v → w'.cell? ⟨b, o, none⟩ = some v
theorem Keeps.refl (C R : Nat) (w : World) : Keeps C R w w := fun _ _ _ _ _ h => h
theorem Keeps.trans {C R : Nat} {a b c : World} (h : Keeps C R a b) (k : Keeps C R b c) : Keeps C R a c := fun x o v n1 n2 hx => k x o v n1 n2 (h x o v n1 n2 hx)
theorem Keeps.alloc (C R : Nat) (w : World) (o : Obj) : Keeps C R w (w.alloc o) := fun _ _ _ _ _ h => kAlloc h
theorem Keeps.setC (C R i : Nat) (w : World) (u : Value) : Keeps C R w (w.setCell ⟨C, i, none⟩ u) := fun _ _ _ n1 _ h => kSet h n1
theorem Keeps.setR (C R i : Nat) (w : World) (u : Value) : Keeps C R w (w.setCell ⟨R, i, none⟩ u) := fun _ _ _ _ n2 h => kSet h n2
/-- Behind the rounds that are done, cur (at block C) holds the chain of the last len - k codes. -/
def ChainRel (R C : Nat) (zs : List Int) (len n f : Nat) (u : Value) (w : World) (i : Value) (wr : World) : Prop :=
  ∃ (k : Nat) (d : Value), k ≤ len ∧ i = .int .i64 ((k : Int) - 1) ∧ (∀ w', Keeps C R wr w' → Chain w' n f u ((zs.take len).drop k) d) ∧ wr.cell? ⟨C, 0, none⟩ = some d ∧ wr.cell? ⟨C, 1, none⟩ = some (.int .i32 0) ∧ wr.frozen? ⟨C, 0, none⟩ = false ∧ wr.frozen? ⟨C, 1, none⟩ = false ∧
    wr.cell? ⟨R, 0, none⟩ = some .nilIface ∧ wr.cell? ⟨R, 1, none⟩ = some (.int .i32 0) ∧ wr.frozen? ⟨R, 0, none⟩ = false ∧ wr.frozen? ⟨R, 1, none⟩ = false ∧ Below w.heap.size w wr
theorem Leaf.keeps {C R : Nat} {w w' : World} {n f : Nat} {u d : Value} (h : Leaf w n f u d) (hC : w.heap.size ≤ C) (hR : w.cell? ⟨R, 0, none⟩ = some .nilIface) (hu : u ≠ .nilIface) (hk : Keeps C R w w') : Leaf w' n f u d := by
  rcases h with ⟨rfl, b, e, hc⟩ | ⟨rfl, b, e, hc⟩ | h
  · have hb : b < w.heap.size := World.block_lt_of_cell? _ _ hc
    exact Or.inl ⟨rfl, b, e, hk _ _ _ (by omega) (by rintro rfl; rw [hc] at hR; cases hR) hc⟩
  · have hb : b < w.heap.size := World.block_lt_of_cell? _ _ hc
    exact Or.inr (Or.inl ⟨rfl, b, e, hk _ _ _ (by omega) (by rintro rfl; rw [hc] at hR; injection hR with hR; exact hu hR) hc⟩)
  · exact Or.inr (Or.inr h)
set_option maxRecDepth 100000 in
set_option maxHeartbeats 2000000 in
theorem chain_any (a : Option Addr) (len cap : Nat) (zs : List Int) (n : Nat) (k : Int) (f : Nat) (b : Option Addr) (len2 cap2 : Nat) (w : World) (hrow : Row .u8 w a len zs) (hlen : len ≤ 65536) (h0 : 0 ≤ k) (h1 : k ≤ 255) (hn : n < 6) (hk : k % 6 = n) (hz : ∀ z ∈ zs, 0 ≤ z ∧ z ≤ 255) :
    Calls Try.prog 17 #[.slice a len cap, .int .u8 k, .float .f64 f, .slice b len2 cap2] w (ChainPost (zs.take len) n f (.slice b len2 cap2) w) := by
  have HK := Lib.hid hk
  have HR := Lib.hid hrow
  have HZ := Lib.hid hz
  clear hk hrow hz
  go_enter Try.func17, Try.ntmps17
  go_wp2_with fail
  refine (leaf_any n _ _ _ _ _ _ h0 h1 hn HK.out).mono ?_
  rintro e w1 ⟨d, rfl, hd, hb1⟩
  have hR0 : w1.cell? ⟨w.heap.size, 0, none⟩ = some .nilIface := by rw [hb1.cell (by simp; try omega)]; simp [go_sem]
  have hR1 : w1.cell? ⟨w.heap.size, 1, none⟩ = some (.int .i32 0) := by rw [hb1.cell (by simp; try omega)]; simp [go_sem]
  have hF0 : w1.frozen? ⟨w.heap.size, 0, none⟩ = false := by rw [hb1.frozen (by simp; try omega)]; simp [go_sem]
  have hF1 : w1.frozen? ⟨w.heap.size, 1, none⟩ = false := by rw [hb1.frozen (by simp; try omega)]; simp [go_sem]
  have B1 : Below w.heap.size w w1 := ((Below.refl _ _).alloc (Nat.le_refl _) _).trans (hb1.mono (by simp))
  have z1 : w.heap.size < w1.heap.size := World.block_lt_of_cell? _ _ hR0
  clear hb1
  have hE := isE (cs := []) hd
  have HD := Lib.hid hd
  clear hd
  rcases hE with rfl | ⟨t0, v0, rfl⟩
  all_goals
    go_wp2_with fail
    go_loopw [10] (fun i wr => ChainRel w.heap.size w1.heap.size zs len n f (.slice b len2 cap2) w i wr) (fun i _ => (intOf i + 1).toNat)
    case atStart =>
      refine ⟨len, _, Nat.le_refl _, rfl, ?_, by simp [go_sem]; rfl, by simp [go_sem], by simp [go_sem], by simp [go_sem], by simp [go_sem, *], by simp [go_sem, *], by simp [go_sem, *], by simp [go_sem, *], B1.alloc B1.size _⟩
      intro w' hk'
      rw [List.drop_of_length_le (by simp; omega)]
      exact Leaf.keeps (C := w1.heap.size) (R := w.heap.size) HD.out (by omega) hR0 (by simp) ((Keeps.alloc _ _ _ _).trans hk')
    case round =>
      obtain ⟨k, d, hk, rfl, hch, c0, c1, f0, f1, r0, r1, s0, s1, hb⟩ := hrel
      have hC : w1.heap.size < wr.heap.size := World.block_lt_of_cell? _ _ c0
      have hRC : ¬ w.heap.size = w1.heap.size := by omega
      have hCR : ¬ w1.heap.size = w.heap.size := by omega
      have hRw : w.heap.size < wr.heap.size := by omega
      have HCH := Lib.hid hch
      clear hch
      rcases Nat.eq_zero_or_pos k with hk0 | hk0
      · subst hk0
        have e0 : ((0 : Nat) : Int) - 1 = -1 := by omega
        rw [e0]
        clear e0
        rcases isE (HCH.out wr (Keeps.refl _ _ _)) with rfl | ⟨t1, v1, rfl⟩
        · go_wp2_with fail
          exact bodyPost_ret (v := .agg #[.nilIface, .int .i32 0]) (by simp [results, Try.results17, go_sem, *]) rfl ⟨_, rfl, HCH.out _ (by repeat (first | with_reducible exact Keeps.refl _ _ _ | (with_reducible refine Keeps.trans ?_ (Keeps.setR _ _ _ _ _)))), (by repeat (first | with_reducible exact hb | (with_reducible refine Below.alloc ?_ (by have := hb.size; simp; try omega) _) | (with_reducible refine Below.setCell ?_ (by have := hb.size; have := B1.size; simp; try omega) _)))⟩
        · go_wp2_with fail
          exact bodyPost_ret (v := .agg #[.iface t1 v1, .int .i32 0]) (by simp [results, Try.results17, go_sem, *]) rfl ⟨_, rfl, HCH.out _ (by repeat (first | with_reducible exact Keeps.refl _ _ _ | (with_reducible refine Keeps.trans ?_ (Keeps.setR _ _ _ _ _)))), (by repeat (first | with_reducible exact hb | (with_reducible refine Below.alloc ?_ (by have := hb.size; simp; try omega) _) | (with_reducible refine Below.setCell ?_ (by have := hb.size; have := B1.size; simp; try omega) _)))⟩
      · obtain ⟨j, rfl⟩ : ∃ j, k = j + 1 := ⟨k - 1, by omega⟩
        obtain ⟨B, off, ha, hc⟩ := (HR.out.below hb).2 (by omega)
        have hcell := hc j (by omega)
        clear hc
        have hj1 : j < zs.length := by have := HR.out.1; omega
        have hz := HZ.out (zs.getD j 0) (by simp [List.getD, hj1])
        have hdrop : (zs.take len).drop j = zs.getD j 0 :: (zs.take len).drop (j + 1) := by
          rw [List.drop_eq_getElem_cons (by simp; omega)]
          simp [hj1]
        have HDR := Lib.hid hdrop
        clear hdrop
        have ej : ((j + 1 : Nat) : Int) - 1 = (j : Int) := by omega
        rw [ej, ha]
        obtain ⟨z, hzz⟩ : ∃ z, z = zs.getD j 0 := ⟨_, rfl⟩
        rw [← hzz] at hcell hz
        have HZZ := Lib.hid hzz
        clear hzz ej
        obtain ⟨hz0, hz1⟩ := hz
        have h5 : z % 5 = 0 ∨ z % 5 = 1 ∨ z % 5 = 2 ∨ z % 5 = 3 ∨ z % 5 = 4 := by omega
        rcases h5 with h5 | h5 | h5 | h5 | h5
        · go_wp2_with fail
          go_roundw
          case rel =>
            refine ⟨j, _, by omega, rfl, ?_, by simp [go_sem, *]; rfl, by simp [go_sem, *], by simp [go_sem, *], by simp [go_sem, *], by simp [go_sem, *], by simp [go_sem, *], by simp [go_sem, *], by simp [go_sem, *], (by repeat (first | with_reducible exact hb | (with_reducible refine Below.alloc ?_ (by have := hb.size; simp; try omega) _) | (with_reducible refine Below.setCell ?_ (by have := hb.size; have := B1.size; simp; try omega) _)))⟩
            intro w' hk'
            rw [HDR.out, ← HZZ.out]
            exact Or.inl ⟨h5, wr.heap.size, d, rfl, hk' _ _ _ (by omega) (by omega) (by simp [go_sem, *]), HCH.out w' (Keeps.trans (by repeat (first | with_reducible exact Keeps.refl _ _ _ | (with_reducible exact Keeps.alloc _ _ _ _) | (with_reducible refine Keeps.trans ?_ (Keeps.setC _ _ _ _ _)) | (with_reducible refine Keeps.trans ?_ (Keeps.alloc _ _ _ _)))) hk')⟩
          case measure => simp [intOf]; try omega
        · go_wp2_with fail
          go_roundw
          case rel =>
            refine ⟨j, _, by omega, rfl, ?_, by simp [go_sem, *]; rfl, by simp [go_sem, *], by simp [go_sem, *], by simp [go_sem, *], by simp [go_sem, *], by simp [go_sem, *], by simp [go_sem, *], by simp [go_sem, *], (by repeat (first | with_reducible exact hb | (with_reducible refine Below.alloc ?_ (by have := hb.size; simp; try omega) _) | (with_reducible refine Below.setCell ?_ (by have := hb.size; have := B1.size; simp; try omega) _)))⟩
            intro w' hk'
            rw [HDR.out, ← HZZ.out]
            exact Or.inr (Or.inl ⟨h5, wr.heap.size, d, rfl, hk' _ _ _ (by omega) (by omega) (by simp [go_sem, *]), HCH.out w' (Keeps.trans (by repeat (first | with_reducible exact Keeps.refl _ _ _ | (with_reducible exact Keeps.alloc _ _ _ _) | (with_reducible refine Keeps.trans ?_ (Keeps.setC _ _ _ _ _)) | (with_reducible refine Keeps.trans ?_ (Keeps.alloc _ _ _ _)))) hk')⟩)
          case measure => simp [intOf]; try omega
        · go_wp2_with fail
          go_roundw
          case rel =>
            refine ⟨j, _, by omega, rfl, ?_, by simp [go_sem, *]; rfl, by simp [go_sem, *], by simp [go_sem, *], by simp [go_sem, *], by simp [go_sem, *], by simp [go_sem, *], by simp [go_sem, *], by simp [go_sem, *], (by repeat (first | with_reducible exact hb | (with_reducible refine Below.alloc ?_ (by have := hb.size; simp; try omega) _) | (with_reducible refine Below.setCell ?_ (by have := hb.size; have := B1.size; simp; try omega) _)))⟩
            intro w' hk'
            rw [HDR.out, ← HZZ.out]
            exact Or.inr (Or.inr ⟨by omega, _, _, rfl, by decide, by decide, by decide, by decide⟩)
          case measure => simp [intOf]; try omega
        · go_wp2_with fail
          go_roundw
          case rel =>
            refine ⟨j, _, by omega, rfl, ?_, by simp [go_sem, *]; rfl, by simp [go_sem, *], by simp [go_sem, *], by simp [go_sem, *], by simp [go_sem, *], by simp [go_sem, *], by simp [go_sem, *], by simp [go_sem, *], (by repeat (first | with_reducible exact hb | (with_reducible refine Below.alloc ?_ (by have := hb.size; simp; try omega) _) | (with_reducible refine Below.setCell ?_ (by have := hb.size; have := B1.size; simp; try omega) _)))⟩
            intro w' hk'
            rw [HDR.out, ← HZZ.out]
            exact Or.inr (Or.inr ⟨by omega, _, _, rfl, by decide, by decide, by decide, by decide⟩)
          case measure => simp [intOf]; try omega
        · go_wp2_with fail
          go_roundw
          case rel =>
            refine ⟨j, _, by omega, rfl, ?_, by simp [go_sem, *]; rfl, by simp [go_sem, *], by simp [go_sem, *], by simp [go_sem, *], by simp [go_sem, *], by simp [go_sem, *], by simp [go_sem, *], by simp [go_sem, *], (by repeat (first | with_reducible exact hb | (with_reducible refine Below.alloc ?_ (by have := hb.size; simp; try omega) _) | (with_reducible refine Below.setCell ?_ (by have := hb.size; have := B1.size; simp; try omega) _)))⟩
            intro w' hk'
            rw [HDR.out, ← HZZ.out]
            exact Or.inr (Or.inr ⟨by omega, _, _, rfl, by decide, by decide, by decide, by decide⟩)
          case measure => simp [intOf]; try omega
end Go.Proofs.Ytaipmmfkideobaa
