/- Proved here: the switch that the law lays. Conditions: the lists' cells, as stated. -/
import Derived.Test.YtjnffbnipjkibaaASA
import Derived.WalkKit
import Derived.WalkSpells
import Derived.WalkLawsBesides
import Derived.Lib.Hide
import Derived.Lib.SliceRun
import Derived.Deep.RegionWith
import Derived.OwnWalk
import Derived.Laws.OwnMore
import Derived.Deep.AppendLies
import Derived.Deep.RegionHeld3
import Derived.Deep.RegionLaw
namespace Go.Proofs.Ytjnffbnipjkibaa
open Go.RowKit
set_option linter.unusedSimpArgs false
set_option linter.unusedVariables false

/-- A slice that reads as f at each index below len; nil where len is 0 is let in. -/
def RowV (w : World) (a : Option Addr) (len : Nat) (f : Nat → Value) : Prop :=
  0 < len → ∃ B off, a = some ⟨B, off, none⟩ ∧ ∀ i, i < len → w.cell? ⟨B, off + i, none⟩ = some (f i)
theorem RowV.below {w w' : World} {a : Option Addr} {len : Nat} {f : Nat → Value} (h : RowV w a len f) (hb : Below w.heap.size w w') : RowV w' a len f := fun hp => by
  obtain ⟨B, off, e, hc⟩ := h hp
  exact ⟨B, off, e, fun i hi => kept hb (hc i hi)⟩
def ClonedV (len : Nat) (f : Nat → Value) (w : World) (e : Ending) (w' : World) : Prop :=
  ∃ a' cap', e = .returned (.slice a' len cap') ∧ RowV w' a' len f ∧ Below w.heap.size w w'
theorem rowv_ints {k : IntKind} {w : World} {a : Option Addr} {len cap : Nat} {zs : List Int} (h : IsRow k w a len cap zs) : RowV w a len (fun i => .int k (zs.getD i 0)) := by
  intro hp
  rcases h with ⟨_, rfl, _⟩ | ⟨x, rfl, hl, hm, hz, hcell, _⟩
  · omega
  · obtain ⟨b, off, rfl⟩ := spot_none (hcell 0 (by omega))
    exact ⟨b, off, rfl, fun i hi => by rw [← add_none]; exact hcell i (by omega)⟩
theorem rowv_bools {w : World} {a : Option Addr} {len cap : Nat} {zs : List Bool} (h : IsBools w a len cap zs) : RowV w a len (fun i => .bool (zs.getD i false)) := by
  intro hp
  rcases h with ⟨_, rfl, _⟩ | ⟨x, rfl, hl, hm, hz, hcell⟩
  · omega
  · obtain ⟨b, off, rfl⟩ := spot_none (hcell 0 (by omega))
    exact ⟨b, off, rfl, fun i hi => by rw [← add_none]; exact hcell i (by omega)⟩
theorem rowv_strs {w : World} {a : Option Addr} {len cap : Nat} {zs : List ByteArray} (h : IsStrs w a len cap zs) : RowV w a len (fun i => .string (zs.getD i ByteArray.empty)) := by
  intro hp
  rcases h with ⟨_, rfl, _⟩ | ⟨x, rfl, hl, hm, hz, hcell, _⟩
  · omega
  · obtain ⟨b, off, rfl⟩ := spot_none (hcell 0 (by omega))
    exact ⟨b, off, rfl, fun i hi => by rw [← add_none]; exact hcell i (by omega)⟩
theorem len_ints {k : IntKind} {w : World} {a : Option Addr} {len cap : Nat} {zs : List Int} (h : IsRow k w a len cap zs) : len ≤ maxLen ∧ len ≤ zs.length ∧ ∀ i, (Lit.int k (zs.getD i 0)).wf = true ∨ zs.length ≤ i := by
  rcases h with ⟨_, rfl, _, rfl⟩ | ⟨x, rfl, hl, hm, hz, hcell, hw⟩
  · exact ⟨by unfold maxLen; omega, by simp, fun i => .inr (by simp)⟩
  · refine ⟨by omega, by omega, fun i => ?_⟩
    by_cases hi : i < zs.length
    · left; exact hw _ (by simp [List.getD, hi])
    · right; omega
theorem len_bools {w : World} {a : Option Addr} {len cap : Nat} {zs : List Bool} (h : IsBools w a len cap zs) : len ≤ maxLen := by
  rcases h with ⟨_, rfl, _, rfl⟩ | ⟨x, rfl, hl, hm, hz, hcell⟩
  · unfold maxLen; omega
  · omega
theorem len_strs {w : World} {a : Option Addr} {len cap : Nat} {zs : List ByteArray} (h : IsStrs w a len cap zs) : len ≤ maxLen ∧ ∀ i, (zs.getD i ByteArray.empty).size ≤ maxLen := by
  rcases h with ⟨_, rfl, _, rfl⟩ | ⟨x, rfl, hl, hm, hz, hcell, hw⟩
  · exact ⟨by unfold maxLen; omega, fun i => by simp⟩
  · refine ⟨by omega, fun i => ?_⟩
    by_cases hi : i < zs.length
    · exact hw _ (by simp [List.getD, hi])
    · simp [List.getD, hi]

theorem info68 : (Try.prog.info? 68).map (fun i => (i.zero, i.size, i.bytes)) = some (some (.agg #[.nilIface, .int .i32 0, .slice none 0 0, .int .i32 0]), 4, 56) := by kernel_rfl
theorem step_append_fits {P : Program} {ops : Array Oper} {o : Oper} {a : Act} {w : World} {K : Act → World → Prop} {Q : Exit → Act → World → Prop} {E : Prop}
    (hg : o.guard = none) (s x : Operand) (t : TypeId) (hop : o.op = Op.call { callee := Callee.builtin Builtin.append, args := #[s, x], argTypes := #[t, t] })
    (base : Nat) (e : TypeId) (i : TypeInfo) (size : Nat) (h1 : P.underlying t = some (.slice e)) (h2 : P.info? e = some i) (h4 : i.size = size)
    (g k cap : Nat) (xs : List Value) (hs : a.eval s = .slice (some ⟨g, 0, none⟩) k cap) (hown : w.ownsRow base e size (.slice (some ⟨g, 0, none⟩) k cap) k xs) (ad : Addr) (m c : Nat) (news : List Value) (hx : a.eval x = .slice (some ad) m c) (hn : news.length = m * size)
    (hc : ∀ j u, news[j]? = some u → w.cell? (ad.add j) = some u) (h1c : ∀ u ∈ news, u.oneCell' = true) (b1 : k + m ≤ cap)
    (hK : ∀ w', w'.ownsRow base e size (.slice (some ⟨g, 0, none⟩) (k + m) cap) (k + m) (xs ++ news) → w.grownBy w' (some g) → K (a.put o.dst (.slice (some ⟨g, 0, none⟩) (k + m) cap)) w') :
    if Region.wanted o (yielded ops a.tmps) = true then Oper.wp P o a w K Q else E := by
  have hw : Region.wanted o (yielded ops a.tmps) = true := by simp [Region.wanted, hg]
  rw [if_pos hw]
  obtain ⟨w', hrun, r1, r2⟩ := run_append_fits (P := P) w base t o.type e i size h1 h2 h4 g k cap xs hown ad m c news hn hc h1c b1
  unfold Oper.wp
  simp [execOp, hop, resolve, invoke, builtin, hs, hx, hrun, Result.andThen]
  exact hK w' r1 r2
/-- The i-th entry; 0 where there is none. -/
def vz (zs : List Int) (n i : Nat) : Int := if i < n then zs.getD i 0 else 0
/-- A slice that reads as the numbers zs. -/
def RowK (k : IntKind) (w : World) (a : Option Addr) (n : Nat) (zs : List Int) : Prop := ∀ i, i < n → ∃ B off, a = some ⟨B, off, none⟩ ∧ w.cell? ⟨B, off + i, none⟩ = some (.int k (zs.getD i 0))
theorem RowK.below {k : IntKind} {w w' : World} {a : Option Addr} {n : Nat} {zs : List Int} (h : RowK k w a n zs) (hb : Below w.heap.size w w') : RowK k w' a n zs := fun i hi => by
  obtain ⟨B, off, e, hc⟩ := h i hi
  exact ⟨B, off, e, kept hb hc⟩
set_option maxRecDepth 100000 in
set_option maxHeartbeats 1000000 in
theorem atB (a : Option Addr) (n c i : Nat) (zs : List Int) (w : World) (h : RowK .u8 w a n zs) (hn : n ≤ 65536) (hi : i ≤ 65536) : Calls Try.prog 21 #[.slice a n c, .int .i64 i] w (fun e w' => e = .returned (.int .u8 (vz zs n i)) ∧ w = w') := by
  by_cases hin : i < n
  · obtain ⟨B, off, rfl, c0⟩ := h i hin
    have lB : B < w.heap.size := World.block_lt_of_cell? _ _ c0
    have i0 : (0 : Int) ≤ (i : Int) := Int.natCast_nonneg _
    have i1 : (i : Int) < (n : Int) := by omega
    have HV := Lib.hid (show vz zs n i = zs.getD i 0 from if_pos hin)
    clear h
    go_enter Try.func21, Try.ntmps21
    go_wp2_with fail
    go_ret
    exact ⟨ret_int HV.out.symm, rfl⟩
  · have HV := Lib.hid (show vz zs n i = 0 from if_neg hin)
    clear h
    go_enter Try.func21, Try.ntmps21
    go_wp2_with fail
    go_ret
    exact ⟨ret_int HV.out.symm, rfl⟩
set_option maxRecDepth 100000 in
set_option maxHeartbeats 1000000 in
theorem atI8 (a : Option Addr) (n c i : Nat) (zs : List Int) (w : World) (h : RowK .i8 w a n zs) (hn : n ≤ 65536) (hi : i ≤ 65536) : Calls Try.prog 23 #[.slice a n c, .int .i64 i] w (fun e w' => e = .returned (.int .i8 (vz zs n i)) ∧ w = w') := by
  by_cases hin : i < n
  · obtain ⟨B, off, rfl, c0⟩ := h i hin
    have lB : B < w.heap.size := World.block_lt_of_cell? _ _ c0
    have i0 : (0 : Int) ≤ (i : Int) := Int.natCast_nonneg _
    have i1 : (i : Int) < (n : Int) := by omega
    have HV := Lib.hid (show vz zs n i = zs.getD i 0 from if_pos hin)
    clear h
    go_enter Try.func23, Try.ntmps23
    go_wp2_with fail
    go_ret
    exact ⟨ret_int HV.out.symm, rfl⟩
  · have HV := Lib.hid (show vz zs n i = 0 from if_neg hin)
    clear h
    go_enter Try.func23, Try.ntmps23
    go_wp2_with fail
    go_ret
    exact ⟨ret_int HV.out.symm, rfl⟩

def IdP (w : World) (e : Ending) (w' : World) : Prop := ∃ b, e = .returned (.agg #[.iface 95 (.pointer (some ⟨b, 0, none⟩)), .int .i32 0]) ∧ w.heap.size ≤ b ∧ b < w'.heap.size ∧ Below w.heap.size w w'
def NuP (f : Nat) (w : World) (e : Ending) (w' : World) : Prop := ∃ b, e = .returned (.agg #[.iface 101 (.pointer (some ⟨b, 0, none⟩)), .int .i32 0]) ∧ w.heap.size ≤ b ∧ b < w'.heap.size ∧ w'.cell? ⟨b, 0, none⟩ = some (.float .f64 f) ∧ Below w.heap.size w w'
set_option maxRecDepth 100000 in
set_option maxHeartbeats 1000000 in
theorem eIdent (w : World) : Calls Try.prog 27 #[] w (IdP w) := by
  go_enter Try.func27, Try.ntmps27
  go_wp2_with fail
  exact bodyPost_ret (v := .agg #[.iface 95 (.pointer (some ⟨w.heap.size + 1, 0, none⟩)), .int .i32 0]) (by simp [results, Try.results27, go_sem]) rfl ⟨_, rfl, by omega, by simp, (by repeat (first | with_reducible exact Below.refl _ _ | (with_reducible refine Below.alloc ?_ (by simp; try omega) _) | (with_reducible refine Below.setCell ?_ (by simp; try omega) _)))⟩
set_option maxRecDepth 100000 in
set_option maxHeartbeats 1000000 in
theorem eNumber (f : Nat) (w : World) : Calls Try.prog 28 #[.float .f64 f] w (NuP f w) := by
  go_enter Try.func28, Try.ntmps28
  go_wp2_with fail
  exact bodyPost_ret (v := .agg #[.iface 101 (.pointer (some ⟨w.heap.size + 1, 0, none⟩)), .int .i32 0]) (by simp [results, Try.results28, go_sem]) rfl ⟨_, rfl, by omega, by simp, by simp [go_sem], (by repeat (first | with_reducible exact Below.refl _ _ | (with_reducible refine Below.alloc ?_ (by simp; try omega) _) | (with_reducible refine Below.setCell ?_ (by simp; try omega) _)))⟩
def IsE (v : Value) : Prop := v = .nilIface ∨ ∃ t b, v = .iface t (.pointer (some ⟨b, 0, none⟩))
def CaP (v s : Value) (w : World) (e : Ending) (w' : World) : Prop := e = .returned (.agg #[v, .int .i32 0, s, .int .i32 0]) ∧ Below w.heap.size w w'
set_option maxRecDepth 100000 in
set_option maxHeartbeats 1000000 in
theorem zcase (v : Value) (ao : Option Addr) (n c : Nat) (w : World) (hv : IsE v) : Calls Try.prog 29 #[.agg #[v, .int .i32 0], .slice ao n c] w (CaP v (.slice ao n c) w) := by
  rcases hv with rfl | ⟨t, b, rfl⟩
  · go_enter Try.func29, Try.ntmps29
    go_wp2_with fail
    exact bodyPost_ret (v := .agg #[.nilIface, .int .i32 0, .slice ao n c, .int .i32 0]) (by simp [results, Try.results29, go_sem]) rfl ⟨rfl, (by repeat (first | with_reducible exact Below.refl _ _ | (with_reducible refine Below.alloc ?_ (by simp; try omega) _) | (with_reducible refine Below.setCell ?_ (by simp; try omega) _)))⟩
  · go_enter Try.func29, Try.ntmps29
    go_wp2_with fail
    exact bodyPost_ret (v := .agg #[.iface t (.pointer (some ⟨b, 0, none⟩)), .int .i32 0, .slice ao n c, .int .i32 0]) (by simp [results, Try.results29, go_sem]) rfl ⟨rfl, (by repeat (first | with_reducible exact Below.refl _ _ | (with_reducible refine Below.alloc ?_ (by simp; try omega) _) | (with_reducible refine Below.setCell ?_ (by simp; try omega) _)))⟩
def SwP (v : Value) (s : Value) (w : World) (e : Ending) (w' : World) : Prop := ∃ b, e = .returned (.pointer (some ⟨b, 0, none⟩)) ∧ w'.cell? ⟨b, 0, none⟩ = some v ∧ w'.cell? ⟨b, 1, none⟩ = some (.int .i32 0) ∧ w'.cell? ⟨b, 2, none⟩ = some s ∧ Below w.heap.size w w'
set_option maxRecDepth 100000 in
set_option maxHeartbeats 1000000 in
theorem zswitch (t b n c : Nat) (ao : Option Addr) (w : World) : Calls Try.prog 31 #[.agg #[.iface t (.pointer (some ⟨b, 0, none⟩)), .int .i32 0], .slice ao n c] w (SwP (.iface t (.pointer (some ⟨b, 0, none⟩))) (.slice ao n c) w) := by
  go_enter Try.func31, Try.ntmps31
  go_wp2_with fail
  go_ret
  exact ⟨_, rfl, by simp [go_sem], by simp [go_sem], by simp [go_sem], (by repeat (first | with_reducible exact Below.refl _ _ | (with_reducible refine Below.alloc ?_ (by simp; try omega) _) | (with_reducible refine Below.setCell ?_ (by simp; try omega) _)))⟩

/-- The expression of a case of the kind k: none, the number x, an identifier; in blocks from B on. -/
def Ev (B : Nat) (w : World) (k x : Int) (v : Value) : Prop := (k = 0 ∧ v = .nilIface) ∨ ∃ b, B ≤ b ∧ b < w.heap.size ∧ ((k = 1 ∧ v = .iface 101 (.pointer (some ⟨b, 0, none⟩)) ∧ w.cell? ⟨b, 0, none⟩ = some (.float .f64 (floatOfInt .f64 x))) ∨ (k = 2 ∧ v = .iface 95 (.pointer (some ⟨b, 0, none⟩))))
theorem Ev.ex {B : Nat} {w w' : World} {k x : Int} {v : Value} (h : Ev B w k x v) (he : Ex B w w') : Ev B w' k x v := by
  rcases h with h | ⟨b, h1, h2, ⟨h3, h4, h5⟩ | h3⟩
  · exact .inl h
  · exact .inr ⟨b, h1, Nat.lt_of_lt_of_le h2 he.1, .inl ⟨h3, h4, he.cell h1 h5⟩⟩
  · exact .inr ⟨b, h1, Nat.lt_of_lt_of_le h2 he.1, .inr h3⟩
theorem Ev.low {B B' : Nat} {w : World} {k x : Int} {v : Value} (h : Ev B w k x v) (hb : B' ≤ B) : Ev B' w k x v := by
  rcases h with h | ⟨b, h1, h2⟩
  · exact .inl h
  · exact .inr ⟨b, by omega, h2⟩
theorem Ev.shape {B : Nat} {w : World} {k x : Int} {v : Value} (h : Ev B w k x v) : IsE v := by
  rcases h with ⟨_, rfl⟩ | ⟨b, _, _, ⟨_, rfl, _⟩ | ⟨_, rfl⟩⟩
  · exact .inl rfl
  · exact .inr ⟨_, _, rfl⟩
  · exact .inr ⟨_, _, rfl⟩
def kd (ks : List Int) (q : Nat) : Int := ks.getD q 0 % 3
def bd (bs : List Int) (p q : Nat) : Int := vz bs p q % 6
/-- The cells xs are j cases. -/
def Cs (B : Nat) (w : World) (xs : List Value) (j : Nat) (ks vs : List Int) (m : Nat) (bs : List Int) (p : Nat) : Prop := xs.length = j * 4 ∧ ∀ q, q < j → ∃ v ao l c d, Ev B w (kd ks q) (vz vs m q) v ∧ Bd B w d (.slice ao l c) (falls (bd bs p q)) ∧ xs[q * 4]? = some v ∧ xs[q * 4 + 1]? = some (.int .i32 0) ∧ xs[q * 4 + 2]? = some (.slice ao l c) ∧ xs[q * 4 + 3]? = some (.int .i32 0)
theorem Cs.ex {B : Nat} {w w' : World} {xs : List Value} {j : Nat} {ks vs : List Int} {m : Nat} {bs : List Int} {p : Nat} (h : Cs B w xs j ks vs m bs p) (he : Ex B w w') : Cs B w' xs j ks vs m bs p := ⟨h.1, fun q hq => by obtain ⟨v, ao, l, c, d, h1, h2, h3⟩ := h.2 q hq; exact ⟨v, ao, l, c, d, h1.ex he, h2.ex he, h3⟩⟩
theorem Cs.snoc {B : Nat} {w : World} {xs : List Value} {j : Nat} {ks vs : List Int} {m : Nat} {bs : List Int} {p : Nat} (h : Cs B w xs j ks vs m bs p) (v : Value) (ao : Option Addr) (l c d : Nat) (hv : Ev B w (kd ks j) (vz vs m j) v) (hb : Bd B w d (.slice ao l c) (falls (bd bs p j))) : Cs B w (xs ++ [v, .int .i32 0, .slice ao l c, .int .i32 0]) (j + 1) ks vs m bs p := by
  refine ⟨by simp [h.1]; omega, fun q hq => ?_⟩
  by_cases e : q = j
  · subst e
    have l' := h.1
    refine ⟨v, ao, l, c, d, hv, hb, ?_, ?_, ?_, ?_⟩ <;> (rw [List.getElem?_append_right (by omega), l']; simp)
  · obtain ⟨v', ao', l1, c', d', h1, h2, x0, x1, x2, x3⟩ := h.2 q (by omega)
    have l' := h.1
    refine ⟨v', ao', l1, c', d', h1, h2, ?_, ?_, ?_, ?_⟩ <;> (rw [List.getElem?_append_left (by omega)]; assumption)
theorem vz_b {bs : List Int} (h : ∀ i, 0 ≤ bs.getD i 0 ∧ bs.getD i 0 ≤ 255) (p q : Nat) : 0 ≤ vz bs p q ∧ vz bs p q ≤ 255 := by
  unfold vz; split
  · exact h q
  · omega
def BL (n : Nat) (ks vs : List Int) (m : Nat) (bs : List Int) (p R : Nat) (W : World) (s i : Value) (wr : World) : Prop := ∃ (j : Nat) (xs : List Value), j ≤ n ∧ s = .slice (some ⟨R, 0, none⟩) j n ∧ i = .int .i64 j ∧ Hid (wr.ownsRow R 68 4 s j xs) ∧ Hid (Cs (R + 1) wr xs j ks vs m bs p) ∧ Hid (Below R W wr) ∧ R + 1 ≤ wr.heap.size
def Tst (w : World) (ti : Bool) (tv : Int) (v : Value) : Prop := ∃ b, (ti = true ∧ v = .iface 95 (.pointer (some ⟨b, 0, none⟩))) ∨ (ti = false ∧ v = .iface 101 (.pointer (some ⟨b, 0, none⟩)) ∧ w.cell? ⟨b, 0, none⟩ = some (.float .f64 (floatOfInt .f64 tv)))
def BsP (ti : Bool) (tv : Int) (n : Nat) (ks vs : List Int) (m : Nat) (bs : List Int) (p : Nat) (w : World) (e : Ending) (w' : World) : Prop := ∃ sb R tvl xs, e = .returned (.pointer (some ⟨sb, 0, none⟩)) ∧ Tst w' ti tv tvl ∧ w'.cell? ⟨sb, 0, none⟩ = some tvl ∧ w'.cell? ⟨sb, 1, none⟩ = some (.int .i32 0) ∧ w'.cell? ⟨sb, 2, none⟩ = some (.slice (some ⟨R, 0, none⟩) n n) ∧ w'.ownsRow R 68 4 (.slice (some ⟨R, 0, none⟩) n n) n xs ∧ Cs (R + 1) w' xs n ks vs m bs p ∧ Below w.heap.size w w'

set_option maxRecDepth 100000 in
set_option maxHeartbeats 8000000 in
theorem bsw (tv : Int) (a2 : Option Addr) (n c2 : Nat) (ks : List Int) (a3 : Option Addr) (m c3 : Nat) (vs : List Int) (a4 : Option Addr) (p c4 : Nat) (bs : List Int) (w : World) (hn : n ≤ 4096) (hm : m ≤ 4096) (hp : p ≤ 4096) (hk : ∀ i, 0 ≤ ks.getD i 0 ∧ ks.getD i 0 ≤ 255) (hbs : ∀ i, 0 ≤ bs.getD i 0 ∧ bs.getD i 0 ≤ 255) (hK : RowK .u8 w a2 n ks) (hV : RowK .i8 w a3 m vs) (hB : RowK .u8 w a4 p bs) : Calls Try.prog 18 #[.bool false, .int .i8 tv, .slice a2 n c2, .slice a3 m c3, .slice a4 p c4] w (BsP false tv n ks vs m bs p w) := by
  obtain ⟨i0, hi0, hz0, hz1, hz2⟩ := info_parts info68
  have I := Lib.hid hi0
  have I0 := Lib.hid hz0
  have I1 := Lib.hid hz1
  have I2 := Lib.hid hz2
  have HK := Lib.hid hK
  have HV := Lib.hid hV
  have HBs := Lib.hid hB
  clear hi0 hz0 hz1 hz2 hK hV hB
  go_enter Try.func18, Try.ntmps18
  go_wp2_with fail
  refine (eNumber _ _).mono ?_
  rintro e w1 ⟨b1, rfl, hb1, hb1', hc1, hb⟩
  have e0 : w1.cell? ⟨w.heap.size, 0, none⟩ = some .nilIface := kept hb (by simp [go_sem])
  have e1 : w1.cell? ⟨w.heap.size, 1, none⟩ = some (.int .i32 0) := kept hb (by simp [go_sem])
  have f0 : w1.frozen? ⟨w.heap.size, 0, none⟩ = false := keptF hb (o := 0) (v := .nilIface) (by simp [go_sem]) (by simp [go_sem])
  have f1 : w1.frozen? ⟨w.heap.size, 1, none⟩ = false := keptF hb (o := 1) (v := .int .i32 0) (by simp [go_sem]) (by simp [go_sem])
  have lw0 : w.heap.size < w1.heap.size := World.block_lt_of_cell? _ _ e0
  have BB : Below w.heap.size w w1 := ((Below.refl _ _).alloc (Nat.le_refl _) _).trans (hb.mono (by simp))
  have hb1s : w.heap.size + 1 ≤ b1 := by simpa using hb1
  clear hb hb1
  obtain ⟨W1, hW1⟩ : ∃ W, W = (w1.setCell ⟨w.heap.size, 0, none⟩ (.iface 101 (.pointer (some ⟨b1, 0, none⟩)))).setCell ⟨w.heap.size, 1, none⟩ (.int .i32 0) := ⟨_, rfl⟩
  have z1 : W1.heap.size = w1.heap.size := by rw [hW1]; simp [World.setCell]
  have t0 : W1.cell? ⟨w.heap.size, 0, none⟩ = some (.iface 101 (.pointer (some ⟨b1, 0, none⟩))) := by rw [hW1]; simp [go_sem, e0, e1, lw0]
  have t1 : W1.cell? ⟨w.heap.size, 1, none⟩ = some (.int .i32 0) := by rw [hW1]; simp [go_sem, e0, e1, lw0]
  have lw1 : w.heap.size < W1.heap.size := World.block_lt_of_cell? _ _ t0
  have BW1 := Lib.hid (show Below w.heap.size w W1 from by rw [hW1]; exact (BB.setCell (Nat.le_refl _) _).setCell (Nat.le_refl _) _)
  have HTST := Lib.hid (show W1.cell? ⟨b1, 0, none⟩ = some (.float .f64 (floatOfInt .f64 tv)) from (by rw [hW1]; exact kSet (kSet hc1 (by omega)) (by omega)))
  have hbw := BB.size
  clear BB
  go_wp2_with (with_reducible refine wpList_make_own _ (o := ⟨some 22, _, _, _, _, _⟩) rfl _ _ 66 rfl w1.heap.size 68 i0 _ 4 Try.underlying66 I.out I0.out I1.out .i64 .i64 _ n rfl rfl ?e1 ?e2 ?e3 ?e4 ?_)
  case e1 => rfl
  case e2 => rw [I2.out]; omega
  case e3 => unfold maxLen; omega
  case e4 => simp [World.setCell]
  intro wm hown hgr
  rw [← hW1] at hgr
  clear hW1
  go_wp2_with fail
  go_loopw [12, 13] (fun s i wr => BL n ks vs m bs p w1.heap.size W1 s i wr) (fun s i _ => n - (intOf i).toNat)
  case atStart => exact ⟨0, [], by omega, rfl, rfl, Lib.hid hown, Lib.hid ⟨rfl, fun q hq => absurd hq (by omega)⟩, Lib.hid ((Below.refl w1.heap.size W1).grown hgr (by omega) (fun q hq => by cases hq)), by have := (World.ownsRow.lt hown w1.heap.size rfl).2; omega⟩
  case round =>
    obtain ⟨j, xs, hj, rfl, rfl, HW, HX, HL, hL⟩ := hrel
    clear hown hgr
    have BWR := Lib.hid (BW1.out.trans (HL.out.mono (by omega)))
    by_cases hjn : j < n
    · obtain ⟨B, off, rfl, c0⟩ := (HK.out.below BWR.out) j hjn
      obtain ⟨zz0, zz1⟩ := hk j
      have HKD := Lib.hid (show ks.getD j 0 % 3 = kd ks j from rfl)
      obtain ⟨z, hzz⟩ : ∃ z, z = ks.getD j 0 := ⟨_, rfl⟩
      rw [← hzz] at c0 zz0 zz1 HKD
      clear hzz
      have lB : B < wr.heap.size := World.block_lt_of_cell? _ _ c0
      have q0 : (0 : Int) ≤ (j : Int) := Int.natCast_nonneg _
      have q1 : (j : Int) < (n : Int) := by omega
      have k3 : kd ks j = 0 ∨ kd ks j = 1 ∨ kd ks j = 2 := by unfold kd; omega
      have zc := HKD.out
      rcases k3 with k3 | k3 | k3
      all_goals
        rw [k3] at zc
      · go_wp2_with fail
        obtain ⟨W4, hW4⟩ : ∃ W, W = wr.alloc (.cells #[.nilIface, .int .i32 0] 62) := ⟨_, rfl⟩
        rw [← hW4]
        have v0 : W4.cell? ⟨wr.heap.size, 0, none⟩ = some (.nilIface) := by rw [hW4]; simp [go_sem]
        have v1 : W4.cell? ⟨wr.heap.size, 1, none⟩ = some (.int .i32 0) := by rw [hW4]; simp [go_sem]
        have X4 := Lib.hid (show Below wr.heap.size wr W4 from by rw [hW4]; exact (Below.refl _ _).alloc (Nat.le_refl _) _)
        have EV4 := Lib.hid (show Ev (w1.heap.size + 1) W4 (kd ks j) (vz vs m j) (.nilIface) from by rw [hW4]; exact .inl ⟨k3, rfl⟩)
        have z4 : wr.heap.size < W4.heap.size := World.block_lt_of_cell? _ _ v0
        clear hW4
        have OWN4 := Lib.hid (World.ownsRow.drew ((Ex.of X4.out w1.heap.size).own (Nat.le_refl _) HW.out))
        have BW4 := Lib.hid (BWR.out.trans (X4.out.mono BWR.out.size))
        have HA := Lib.hid (fun (W : World) (hb : Below W4.heap.size W4 W) => atB a4 p c4 j bs W (HBs.out.below (BW4.out.trans (hb.mono BW4.out.size))) (by omega) (by omega))
        have H30 := Lib.hid (fun W => caseBody (vz bs p j) (bd bs p j) W rfl (vz_b hbs p j).1 (vz_b hbs p j).2)
        have HVS := Lib.hid EV4.out.shape
        have rne : wr.heap.size ≠ w1.heap.size := by omega
        have c0' := c0
        clear c0 c0' lB zz0 zz1 zc HKD
        go_region_held3 (fun w' => w'.cell? ⟨wr.heap.size, 0, none⟩ = some (.nilIface) ∧ w'.cell? ⟨wr.heap.size, 1, none⟩ = some (.int .i32 0)) (repeat' (first | (refine And.intro ?_ ?_) | assumption | apply kAlloc | apply kDrew)) (first
          | (go_at_call 21; (with_reducible refine Calls.mono (HA.out _ ?hb) ?_); (case hb => with_reducible first | exact Below.refl _ _ | exact (Below.refl _ _).drew); rintro e w2 ⟨rfl, rfl⟩)
          | (go_at_call 30; (with_reducible refine Calls.mono (H30.out _) ?_); rintro e w2 ⟨d, s, rfl, hbd, hb30⟩; obtain ⟨ao, l, cc, rfl⟩ := hbd.shape; have s0 := kept hb30 v0; have s1 := kept hb30 v1)
          | (go_at_call 29; (with_reducible refine Calls.mono (zcase _ _ _ _ _ HVS.out) ?_); rintro e w3 ⟨rfl, hb29⟩; have r0 := kept hb29 s0; have r1 := kept hb29 s1)
          | (refine step_append_fits (by rfl) _ _ _ (by rfl) w1.heap.size 68 i0 4 Try.underlying66 I.out I1.out w1.heap.size j n xs (by rfl) (World.ownsRow.alloc ((Ex.of hb29 w1.heap.size).own (Nat.le_refl _) ((Ex.of hb30 w1.heap.size).own (Nat.le_refl _) OWN4.out)) _) ⟨w3.heap.size, 0, none⟩ 1 1 [.nilIface, .int .i32 0, .slice ao l cc, .int .i32 0] (by rfl) (by rfl) (World.news_of_block (cs := #[.nilIface, .int .i32 0, .slice ao l cc, .int .i32 0]) (t := 68) (fr := (0, 0)) (heap_alloc_new w3 _)) (by simp [Value.oneCell']) (by omega) ?_; intro w6 hown6 hgr6; have y0 := hgr6.cell (kAlloc r0) (by simp; omega); have y1 := hgr6.cell (kAlloc r1) (by simp; omega)))
        all_goals
          have HO6 := Lib.hid hown6
          have h30 := hb30.size
          have h29 := hb29.size
          have h6 := hgr6.size
          simp at h6 h30
          have hex2 := Lib.hid (show Ex (w1.heap.size + 1) w2 w6 from ((Ex.of hb29 _).alloc _).grown hgr6 (fun k hk => by simp only [Option.some.injEq] at hk; omega))
          have hex := Lib.hid (show Ex (w1.heap.size + 1) W4 w6 from (show Ex (w1.heap.size + 1) W4 w2 from Ex.of (a := W4.drew) hb30 _).trans hex2.out)
          have BF := Lib.hid (show Below w1.heap.size W1 w6 from ((((HL.out.trans (X4.out.mono (by omega))).drew.trans (hb30.mono (by simp; omega))).trans (hb29.mono (by omega))).alloc (by omega) _).grown hgr6 (by simp; omega) (fun q hq => by simp only [Option.some.injEq] at hq; omega))
          have HBD := Lib.hid hbd
          clear hown6 hgr6 hb30 hb29 hbd s0 s1 r0 r1 y0 y1 v0 v1 HA H30 HVS OWN4
          go_wp2_with fail
          go_roundw
          case measure => simp [intOf]; omega
          case rel => exact ⟨j + 1, _, by omega, rfl, by go_num, HO6, Lib.hid (((HX.out.ex (Ex.of X4.out _)).ex hex.out).snoc _ ao l cc d (EV4.out.ex hex.out) ((HBD.out.low (by simp; omega)).ex hex2.out)), BF, by omega⟩
      · have HI8 := Lib.hid (fun (W : World) (hb : Below wr.heap.size wr W) => atI8 a3 m c3 j vs W (HV.out.below (BWR.out.trans (hb.mono BWR.out.size))) (by omega) (by omega))
        go_wp2_with fail
        refine (HI8.out _ ((Below.refl _ _).alloc (Nat.le_refl _) _)).mono ?_
        rintro e wx ⟨rfl, rfl⟩
        clear HI8
        go_wp2_with fail
        refine (eNumber _ _).mono ?_
        rintro e w5 ⟨b5, rfl, h51, h52, hc5, hb5⟩
        have g0 : w5.cell? ⟨wr.heap.size, 0, none⟩ = some .nilIface := kept hb5 (by simp [go_sem])
        have g1 : w5.cell? ⟨wr.heap.size, 1, none⟩ = some (.int .i32 0) := kept hb5 (by simp [go_sem])
        have gf0 : w5.frozen? ⟨wr.heap.size, 0, none⟩ = false := keptF hb5 (o := 0) (v := .nilIface) (by simp [go_sem]) (by simp [go_sem])
        have gf1 : w5.frozen? ⟨wr.heap.size, 1, none⟩ = false := keptF hb5 (o := 1) (v := .int .i32 0) (by simp [go_sem]) (by simp [go_sem])
        have gl : wr.heap.size < w5.heap.size := World.block_lt_of_cell? _ _ g0
        have h51' : wr.heap.size + 1 ≤ b5 := by simpa using h51
        have B5 := Lib.hid (show Below wr.heap.size wr w5 from ((Below.refl _ _).alloc (Nat.le_refl _) _).trans (hb5.mono (by simp)))
        have HC5 := Lib.hid hc5
        clear hc5
        clear hb5 h51
        go_wp2_with fail
        obtain ⟨W4, hW4⟩ : ∃ W, W = (w5.setCell ⟨wr.heap.size, 0, none⟩ (.iface 101 (.pointer (some ⟨b5, 0, none⟩)))).setCell ⟨wr.heap.size, 1, none⟩ (.int .i32 0) := ⟨_, rfl⟩
        rw [← hW4]
        have v0 : W4.cell? ⟨wr.heap.size, 0, none⟩ = some (.iface 101 (.pointer (some ⟨b5, 0, none⟩))) := by rw [hW4]; simp [go_sem, g0, g1, gl]
        have v1 : W4.cell? ⟨wr.heap.size, 1, none⟩ = some (.int .i32 0) := by rw [hW4]; simp [go_sem, g0, g1, gl]
        have X4 := Lib.hid (show Below wr.heap.size wr W4 from by rw [hW4]; exact (B5.out.setCell (Nat.le_refl _) _).setCell (Nat.le_refl _) _)
        have EV4 := Lib.hid (show Ev (w1.heap.size + 1) W4 (kd ks j) (vz vs m j) (.iface 101 (.pointer (some ⟨b5, 0, none⟩))) from by rw [hW4]; exact .inr ⟨b5, by omega, by simp [World.setCell]; exact h52, .inl ⟨k3, rfl, kSet (kSet HC5.out (by omega)) (by omega)⟩⟩)
        have z4 : wr.heap.size < W4.heap.size := World.block_lt_of_cell? _ _ v0
        clear hW4 g0 g1 gf0 gf1
        have OWN4 := Lib.hid (World.ownsRow.drew ((Ex.of X4.out w1.heap.size).own (Nat.le_refl _) HW.out))
        have BW4 := Lib.hid (BWR.out.trans (X4.out.mono BWR.out.size))
        have HA := Lib.hid (fun (W : World) (hb : Below W4.heap.size W4 W) => atB a4 p c4 j bs W (HBs.out.below (BW4.out.trans (hb.mono BW4.out.size))) (by omega) (by omega))
        have H30 := Lib.hid (fun W => caseBody (vz bs p j) (bd bs p j) W rfl (vz_b hbs p j).1 (vz_b hbs p j).2)
        have HVS := Lib.hid EV4.out.shape
        have rne : wr.heap.size ≠ w1.heap.size := by omega
        have c0' := c0
        clear c0 c0' lB zz0 zz1 zc HKD
        go_region_held3 (fun w' => w'.cell? ⟨wr.heap.size, 0, none⟩ = some (.iface 101 (.pointer (some ⟨b5, 0, none⟩))) ∧ w'.cell? ⟨wr.heap.size, 1, none⟩ = some (.int .i32 0)) (repeat' (first | (refine And.intro ?_ ?_) | assumption | apply kAlloc | apply kDrew)) (first
          | (go_at_call 21; (with_reducible refine Calls.mono (HA.out _ ?hb) ?_); (case hb => with_reducible first | exact Below.refl _ _ | exact (Below.refl _ _).drew); rintro e w2 ⟨rfl, rfl⟩)
          | (go_at_call 30; (with_reducible refine Calls.mono (H30.out _) ?_); rintro e w2 ⟨d, s, rfl, hbd, hb30⟩; obtain ⟨ao, l, cc, rfl⟩ := hbd.shape; have s0 := kept hb30 v0; have s1 := kept hb30 v1)
          | (go_at_call 29; (with_reducible refine Calls.mono (zcase _ _ _ _ _ HVS.out) ?_); rintro e w3 ⟨rfl, hb29⟩; have r0 := kept hb29 s0; have r1 := kept hb29 s1)
          | (refine step_append_fits (by rfl) _ _ _ (by rfl) w1.heap.size 68 i0 4 Try.underlying66 I.out I1.out w1.heap.size j n xs (by rfl) (World.ownsRow.alloc ((Ex.of hb29 w1.heap.size).own (Nat.le_refl _) ((Ex.of hb30 w1.heap.size).own (Nat.le_refl _) OWN4.out)) _) ⟨w3.heap.size, 0, none⟩ 1 1 [.iface 101 (.pointer (some ⟨b5, 0, none⟩)), .int .i32 0, .slice ao l cc, .int .i32 0] (by rfl) (by rfl) (World.news_of_block (cs := #[.iface 101 (.pointer (some ⟨b5, 0, none⟩)), .int .i32 0, .slice ao l cc, .int .i32 0]) (t := 68) (fr := (0, 0)) (heap_alloc_new w3 _)) (by simp [Value.oneCell']) (by omega) ?_; intro w6 hown6 hgr6; have y0 := hgr6.cell (kAlloc r0) (by simp; omega); have y1 := hgr6.cell (kAlloc r1) (by simp; omega)))
        all_goals
          have HO6 := Lib.hid hown6
          have h30 := hb30.size
          have h29 := hb29.size
          have h6 := hgr6.size
          simp at h6 h30
          have hex2 := Lib.hid (show Ex (w1.heap.size + 1) w2 w6 from ((Ex.of hb29 _).alloc _).grown hgr6 (fun k hk => by simp only [Option.some.injEq] at hk; omega))
          have hex := Lib.hid (show Ex (w1.heap.size + 1) W4 w6 from (show Ex (w1.heap.size + 1) W4 w2 from Ex.of (a := W4.drew) hb30 _).trans hex2.out)
          have BF := Lib.hid (show Below w1.heap.size W1 w6 from ((((HL.out.trans (X4.out.mono (by omega))).drew.trans (hb30.mono (by simp; omega))).trans (hb29.mono (by omega))).alloc (by omega) _).grown hgr6 (by simp; omega) (fun q hq => by simp only [Option.some.injEq] at hq; omega))
          have HBD := Lib.hid hbd
          clear hown6 hgr6 hb30 hb29 hbd s0 s1 r0 r1 y0 y1 v0 v1 HA H30 HVS OWN4
          go_wp2_with fail
          go_roundw
          case measure => simp [intOf]; omega
          case rel => exact ⟨j + 1, _, by omega, rfl, by go_num, HO6, Lib.hid (((HX.out.ex (Ex.of X4.out _)).ex hex.out).snoc _ ao l cc d (EV4.out.ex hex.out) ((HBD.out.low (by simp; omega)).ex hex2.out)), BF, by omega⟩
      · go_wp2_with fail
        refine (eIdent _).mono ?_
        rintro e w5 ⟨b5, rfl, h51, h52, hb5⟩
        have g0 : w5.cell? ⟨wr.heap.size, 0, none⟩ = some .nilIface := kept hb5 (by simp [go_sem])
        have g1 : w5.cell? ⟨wr.heap.size, 1, none⟩ = some (.int .i32 0) := kept hb5 (by simp [go_sem])
        have gf0 : w5.frozen? ⟨wr.heap.size, 0, none⟩ = false := keptF hb5 (o := 0) (v := .nilIface) (by simp [go_sem]) (by simp [go_sem])
        have gf1 : w5.frozen? ⟨wr.heap.size, 1, none⟩ = false := keptF hb5 (o := 1) (v := .int .i32 0) (by simp [go_sem]) (by simp [go_sem])
        have gl : wr.heap.size < w5.heap.size := World.block_lt_of_cell? _ _ g0
        have h51' : wr.heap.size + 1 ≤ b5 := by simpa using h51
        have B5 := Lib.hid (show Below wr.heap.size wr w5 from ((Below.refl _ _).alloc (Nat.le_refl _) _).trans (hb5.mono (by simp)))
        clear hb5 h51
        go_wp2_with fail
        obtain ⟨W4, hW4⟩ : ∃ W, W = (w5.setCell ⟨wr.heap.size, 0, none⟩ (.iface 95 (.pointer (some ⟨b5, 0, none⟩)))).setCell ⟨wr.heap.size, 1, none⟩ (.int .i32 0) := ⟨_, rfl⟩
        rw [← hW4]
        have v0 : W4.cell? ⟨wr.heap.size, 0, none⟩ = some (.iface 95 (.pointer (some ⟨b5, 0, none⟩))) := by rw [hW4]; simp [go_sem, g0, g1, gl]
        have v1 : W4.cell? ⟨wr.heap.size, 1, none⟩ = some (.int .i32 0) := by rw [hW4]; simp [go_sem, g0, g1, gl]
        have X4 := Lib.hid (show Below wr.heap.size wr W4 from by rw [hW4]; exact (B5.out.setCell (Nat.le_refl _) _).setCell (Nat.le_refl _) _)
        have EV4 := Lib.hid (show Ev (w1.heap.size + 1) W4 (kd ks j) (vz vs m j) (.iface 95 (.pointer (some ⟨b5, 0, none⟩))) from by rw [hW4]; exact .inr ⟨b5, by omega, by simp [World.setCell]; exact h52, .inr ⟨k3, rfl⟩⟩)
        have z4 : wr.heap.size < W4.heap.size := World.block_lt_of_cell? _ _ v0
        clear hW4 g0 g1 gf0 gf1
        have OWN4 := Lib.hid (World.ownsRow.drew ((Ex.of X4.out w1.heap.size).own (Nat.le_refl _) HW.out))
        have BW4 := Lib.hid (BWR.out.trans (X4.out.mono BWR.out.size))
        have HA := Lib.hid (fun (W : World) (hb : Below W4.heap.size W4 W) => atB a4 p c4 j bs W (HBs.out.below (BW4.out.trans (hb.mono BW4.out.size))) (by omega) (by omega))
        have H30 := Lib.hid (fun W => caseBody (vz bs p j) (bd bs p j) W rfl (vz_b hbs p j).1 (vz_b hbs p j).2)
        have HVS := Lib.hid EV4.out.shape
        have rne : wr.heap.size ≠ w1.heap.size := by omega
        have c0' := c0
        clear c0 c0' lB zz0 zz1 zc HKD
        go_region_held3 (fun w' => w'.cell? ⟨wr.heap.size, 0, none⟩ = some (.iface 95 (.pointer (some ⟨b5, 0, none⟩))) ∧ w'.cell? ⟨wr.heap.size, 1, none⟩ = some (.int .i32 0)) (repeat' (first | (refine And.intro ?_ ?_) | assumption | apply kAlloc | apply kDrew)) (first
          | (go_at_call 21; (with_reducible refine Calls.mono (HA.out _ ?hb) ?_); (case hb => with_reducible first | exact Below.refl _ _ | exact (Below.refl _ _).drew); rintro e w2 ⟨rfl, rfl⟩)
          | (go_at_call 30; (with_reducible refine Calls.mono (H30.out _) ?_); rintro e w2 ⟨d, s, rfl, hbd, hb30⟩; obtain ⟨ao, l, cc, rfl⟩ := hbd.shape; have s0 := kept hb30 v0; have s1 := kept hb30 v1)
          | (go_at_call 29; (with_reducible refine Calls.mono (zcase _ _ _ _ _ HVS.out) ?_); rintro e w3 ⟨rfl, hb29⟩; have r0 := kept hb29 s0; have r1 := kept hb29 s1)
          | (refine step_append_fits (by rfl) _ _ _ (by rfl) w1.heap.size 68 i0 4 Try.underlying66 I.out I1.out w1.heap.size j n xs (by rfl) (World.ownsRow.alloc ((Ex.of hb29 w1.heap.size).own (Nat.le_refl _) ((Ex.of hb30 w1.heap.size).own (Nat.le_refl _) OWN4.out)) _) ⟨w3.heap.size, 0, none⟩ 1 1 [.iface 95 (.pointer (some ⟨b5, 0, none⟩)), .int .i32 0, .slice ao l cc, .int .i32 0] (by rfl) (by rfl) (World.news_of_block (cs := #[.iface 95 (.pointer (some ⟨b5, 0, none⟩)), .int .i32 0, .slice ao l cc, .int .i32 0]) (t := 68) (fr := (0, 0)) (heap_alloc_new w3 _)) (by simp [Value.oneCell']) (by omega) ?_; intro w6 hown6 hgr6; have y0 := hgr6.cell (kAlloc r0) (by simp; omega); have y1 := hgr6.cell (kAlloc r1) (by simp; omega)))
        all_goals
          have HO6 := Lib.hid hown6
          have h30 := hb30.size
          have h29 := hb29.size
          have h6 := hgr6.size
          simp at h6 h30
          have hex2 := Lib.hid (show Ex (w1.heap.size + 1) w2 w6 from ((Ex.of hb29 _).alloc _).grown hgr6 (fun k hk => by simp only [Option.some.injEq] at hk; omega))
          have hex := Lib.hid (show Ex (w1.heap.size + 1) W4 w6 from (show Ex (w1.heap.size + 1) W4 w2 from Ex.of (a := W4.drew) hb30 _).trans hex2.out)
          have BF := Lib.hid (show Below w1.heap.size W1 w6 from ((((HL.out.trans (X4.out.mono (by omega))).drew.trans (hb30.mono (by simp; omega))).trans (hb29.mono (by omega))).alloc (by omega) _).grown hgr6 (by simp; omega) (fun q hq => by simp only [Option.some.injEq] at hq; omega))
          have HBD := Lib.hid hbd
          clear hown6 hgr6 hb30 hb29 hbd s0 s1 r0 r1 y0 y1 v0 v1 HA H30 HVS OWN4
          go_wp2_with fail
          go_roundw
          case measure => simp [intOf]; omega
          case rel => exact ⟨j + 1, _, by omega, rfl, by go_num, HO6, Lib.hid (((HX.out.ex (Ex.of X4.out _)).ex hex.out).snoc _ ao l cc d (EV4.out.ex hex.out) ((HBD.out.low (by simp; omega)).ex hex2.out)), BF, by omega⟩
    · obtain rfl : j = n := by omega
      have k0 : wr.cell? ⟨w.heap.size, 0, none⟩ = some (.iface 101 (.pointer (some ⟨b1, 0, none⟩))) := (HL.out.cell (p := ⟨w.heap.size, 0, none⟩) (by simp; omega)).trans t0
      have k1 : wr.cell? ⟨w.heap.size, 1, none⟩ = some (.int .i32 0) := (HL.out.cell (p := ⟨w.heap.size, 1, none⟩) (by simp; omega)).trans t1
      have lwr : w.heap.size < wr.heap.size := World.block_lt_of_cell? _ _ k0
      go_wp2_with fail
      refine (zswitch _ _ _ _ _ _).mono ?_
      rintro e w7 ⟨sb, rfl, h0, h1, h2, hb7⟩
      have HO7 := Lib.hid ((Ex.of hb7 w1.heap.size).own (Nat.le_refl _) HW.out)
      have HX7 := Lib.hid (HX.out.ex (Ex.of hb7 _))
      have BF := Lib.hid (BWR.out.trans (hb7.mono BWR.out.size))
      have HT7 := Lib.hid (show Tst w7 false tv (.iface 101 (.pointer (some ⟨b1, 0, none⟩))) from ⟨b1, .inr ⟨rfl, rfl, kept hb7 ((HL.out.cell (p := ⟨b1, 0, none⟩) (by simp; omega)).trans HTST.out)⟩⟩)
      have S0 := Lib.hid h0
      have S1 := Lib.hid h1
      have S2 := Lib.hid h2
      clear h0 h1 h2 hb7
      go_wp2_with fail
      go_ret
      exact ⟨sb, w1.heap.size, _, xs, rfl, HT7.out, S0.out, S1.out, S2.out, HO7.out, HX7.out, BF.out⟩

set_option maxRecDepth 100000 in
set_option maxHeartbeats 8000000 in
theorem bswI (tv : Int) (a2 : Option Addr) (n c2 : Nat) (ks : List Int) (a3 : Option Addr) (m c3 : Nat) (vs : List Int) (a4 : Option Addr) (p c4 : Nat) (bs : List Int) (w : World) (hn : n ≤ 4096) (hm : m ≤ 4096) (hp : p ≤ 4096) (hk : ∀ i, 0 ≤ ks.getD i 0 ∧ ks.getD i 0 ≤ 255) (hbs : ∀ i, 0 ≤ bs.getD i 0 ∧ bs.getD i 0 ≤ 255) (hK : RowK .u8 w a2 n ks) (hV : RowK .i8 w a3 m vs) (hB : RowK .u8 w a4 p bs) : Calls Try.prog 18 #[.bool true, .int .i8 tv, .slice a2 n c2, .slice a3 m c3, .slice a4 p c4] w (BsP true tv n ks vs m bs p w) := by
  obtain ⟨i0, hi0, hz0, hz1, hz2⟩ := info_parts info68
  have I := Lib.hid hi0
  have I0 := Lib.hid hz0
  have I1 := Lib.hid hz1
  have I2 := Lib.hid hz2
  have HK := Lib.hid hK
  have HV := Lib.hid hV
  have HBs := Lib.hid hB
  clear hi0 hz0 hz1 hz2 hK hV hB
  go_enter Try.func18, Try.ntmps18
  go_wp2_with fail
  refine (eIdent _).mono ?_
  rintro e w1 ⟨b1, rfl, hb1, hb1', hb⟩
  have e0 : w1.cell? ⟨w.heap.size, 0, none⟩ = some .nilIface := kept hb (by simp [go_sem])
  have e1 : w1.cell? ⟨w.heap.size, 1, none⟩ = some (.int .i32 0) := kept hb (by simp [go_sem])
  have f0 : w1.frozen? ⟨w.heap.size, 0, none⟩ = false := keptF hb (o := 0) (v := .nilIface) (by simp [go_sem]) (by simp [go_sem])
  have f1 : w1.frozen? ⟨w.heap.size, 1, none⟩ = false := keptF hb (o := 1) (v := .int .i32 0) (by simp [go_sem]) (by simp [go_sem])
  have lw0 : w.heap.size < w1.heap.size := World.block_lt_of_cell? _ _ e0
  have BB : Below w.heap.size w w1 := ((Below.refl _ _).alloc (Nat.le_refl _) _).trans (hb.mono (by simp))
  have hb1s : w.heap.size + 1 ≤ b1 := by simpa using hb1
  clear hb hb1
  obtain ⟨W1, hW1⟩ : ∃ W, W = (w1.setCell ⟨w.heap.size, 0, none⟩ (.iface 95 (.pointer (some ⟨b1, 0, none⟩)))).setCell ⟨w.heap.size, 1, none⟩ (.int .i32 0) := ⟨_, rfl⟩
  have z1 : W1.heap.size = w1.heap.size := by rw [hW1]; simp [World.setCell]
  have t0 : W1.cell? ⟨w.heap.size, 0, none⟩ = some (.iface 95 (.pointer (some ⟨b1, 0, none⟩))) := by rw [hW1]; simp [go_sem, e0, e1, lw0]
  have t1 : W1.cell? ⟨w.heap.size, 1, none⟩ = some (.int .i32 0) := by rw [hW1]; simp [go_sem, e0, e1, lw0]
  have lw1 : w.heap.size < W1.heap.size := World.block_lt_of_cell? _ _ t0
  have BW1 := Lib.hid (show Below w.heap.size w W1 from by rw [hW1]; exact (BB.setCell (Nat.le_refl _) _).setCell (Nat.le_refl _) _)
  have HTST := Lib.hid (show True from trivial)
  have hbw := BB.size
  clear BB
  go_wp2_with (with_reducible refine wpList_make_own _ (o := ⟨some 22, _, _, _, _, _⟩) rfl _ _ 66 rfl w1.heap.size 68 i0 _ 4 Try.underlying66 I.out I0.out I1.out .i64 .i64 _ n rfl rfl ?e1 ?e2 ?e3 ?e4 ?_)
  case e1 => rfl
  case e2 => rw [I2.out]; omega
  case e3 => unfold maxLen; omega
  case e4 => simp [World.setCell]
  intro wm hown hgr
  rw [← hW1] at hgr
  clear hW1
  go_wp2_with fail
  go_loopw [12, 13] (fun s i wr => BL n ks vs m bs p w1.heap.size W1 s i wr) (fun s i _ => n - (intOf i).toNat)
  case atStart => exact ⟨0, [], by omega, rfl, rfl, Lib.hid hown, Lib.hid ⟨rfl, fun q hq => absurd hq (by omega)⟩, Lib.hid ((Below.refl w1.heap.size W1).grown hgr (by omega) (fun q hq => by cases hq)), by have := (World.ownsRow.lt hown w1.heap.size rfl).2; omega⟩
  case round =>
    obtain ⟨j, xs, hj, rfl, rfl, HW, HX, HL, hL⟩ := hrel
    clear hown hgr
    have BWR := Lib.hid (BW1.out.trans (HL.out.mono (by omega)))
    by_cases hjn : j < n
    · obtain ⟨B, off, rfl, c0⟩ := (HK.out.below BWR.out) j hjn
      obtain ⟨zz0, zz1⟩ := hk j
      have HKD := Lib.hid (show ks.getD j 0 % 3 = kd ks j from rfl)
      obtain ⟨z, hzz⟩ : ∃ z, z = ks.getD j 0 := ⟨_, rfl⟩
      rw [← hzz] at c0 zz0 zz1 HKD
      clear hzz
      have lB : B < wr.heap.size := World.block_lt_of_cell? _ _ c0
      have q0 : (0 : Int) ≤ (j : Int) := Int.natCast_nonneg _
      have q1 : (j : Int) < (n : Int) := by omega
      have k3 : kd ks j = 0 ∨ kd ks j = 1 ∨ kd ks j = 2 := by unfold kd; omega
      have zc := HKD.out
      rcases k3 with k3 | k3 | k3
      all_goals
        rw [k3] at zc
      · go_wp2_with fail
        obtain ⟨W4, hW4⟩ : ∃ W, W = wr.alloc (.cells #[.nilIface, .int .i32 0] 62) := ⟨_, rfl⟩
        rw [← hW4]
        have v0 : W4.cell? ⟨wr.heap.size, 0, none⟩ = some (.nilIface) := by rw [hW4]; simp [go_sem]
        have v1 : W4.cell? ⟨wr.heap.size, 1, none⟩ = some (.int .i32 0) := by rw [hW4]; simp [go_sem]
        have X4 := Lib.hid (show Below wr.heap.size wr W4 from by rw [hW4]; exact (Below.refl _ _).alloc (Nat.le_refl _) _)
        have EV4 := Lib.hid (show Ev (w1.heap.size + 1) W4 (kd ks j) (vz vs m j) (.nilIface) from by rw [hW4]; exact .inl ⟨k3, rfl⟩)
        have z4 : wr.heap.size < W4.heap.size := World.block_lt_of_cell? _ _ v0
        clear hW4
        have OWN4 := Lib.hid (World.ownsRow.drew ((Ex.of X4.out w1.heap.size).own (Nat.le_refl _) HW.out))
        have BW4 := Lib.hid (BWR.out.trans (X4.out.mono BWR.out.size))
        have HA := Lib.hid (fun (W : World) (hb : Below W4.heap.size W4 W) => atB a4 p c4 j bs W (HBs.out.below (BW4.out.trans (hb.mono BW4.out.size))) (by omega) (by omega))
        have H30 := Lib.hid (fun W => caseBody (vz bs p j) (bd bs p j) W rfl (vz_b hbs p j).1 (vz_b hbs p j).2)
        have HVS := Lib.hid EV4.out.shape
        have rne : wr.heap.size ≠ w1.heap.size := by omega
        have c0' := c0
        clear c0 c0' lB zz0 zz1 zc HKD
        go_region_held3 (fun w' => w'.cell? ⟨wr.heap.size, 0, none⟩ = some (.nilIface) ∧ w'.cell? ⟨wr.heap.size, 1, none⟩ = some (.int .i32 0)) (repeat' (first | (refine And.intro ?_ ?_) | assumption | apply kAlloc | apply kDrew)) (first
          | (go_at_call 21; (with_reducible refine Calls.mono (HA.out _ ?hb) ?_); (case hb => with_reducible first | exact Below.refl _ _ | exact (Below.refl _ _).drew); rintro e w2 ⟨rfl, rfl⟩)
          | (go_at_call 30; (with_reducible refine Calls.mono (H30.out _) ?_); rintro e w2 ⟨d, s, rfl, hbd, hb30⟩; obtain ⟨ao, l, cc, rfl⟩ := hbd.shape; have s0 := kept hb30 v0; have s1 := kept hb30 v1)
          | (go_at_call 29; (with_reducible refine Calls.mono (zcase _ _ _ _ _ HVS.out) ?_); rintro e w3 ⟨rfl, hb29⟩; have r0 := kept hb29 s0; have r1 := kept hb29 s1)
          | (refine step_append_fits (by rfl) _ _ _ (by rfl) w1.heap.size 68 i0 4 Try.underlying66 I.out I1.out w1.heap.size j n xs (by rfl) (World.ownsRow.alloc ((Ex.of hb29 w1.heap.size).own (Nat.le_refl _) ((Ex.of hb30 w1.heap.size).own (Nat.le_refl _) OWN4.out)) _) ⟨w3.heap.size, 0, none⟩ 1 1 [.nilIface, .int .i32 0, .slice ao l cc, .int .i32 0] (by rfl) (by rfl) (World.news_of_block (cs := #[.nilIface, .int .i32 0, .slice ao l cc, .int .i32 0]) (t := 68) (fr := (0, 0)) (heap_alloc_new w3 _)) (by simp [Value.oneCell']) (by omega) ?_; intro w6 hown6 hgr6; have y0 := hgr6.cell (kAlloc r0) (by simp; omega); have y1 := hgr6.cell (kAlloc r1) (by simp; omega)))
        all_goals
          have HO6 := Lib.hid hown6
          have h30 := hb30.size
          have h29 := hb29.size
          have h6 := hgr6.size
          simp at h6 h30
          have hex2 := Lib.hid (show Ex (w1.heap.size + 1) w2 w6 from ((Ex.of hb29 _).alloc _).grown hgr6 (fun k hk => by simp only [Option.some.injEq] at hk; omega))
          have hex := Lib.hid (show Ex (w1.heap.size + 1) W4 w6 from (show Ex (w1.heap.size + 1) W4 w2 from Ex.of (a := W4.drew) hb30 _).trans hex2.out)
          have BF := Lib.hid (show Below w1.heap.size W1 w6 from ((((HL.out.trans (X4.out.mono (by omega))).drew.trans (hb30.mono (by simp; omega))).trans (hb29.mono (by omega))).alloc (by omega) _).grown hgr6 (by simp; omega) (fun q hq => by simp only [Option.some.injEq] at hq; omega))
          have HBD := Lib.hid hbd
          clear hown6 hgr6 hb30 hb29 hbd s0 s1 r0 r1 y0 y1 v0 v1 HA H30 HVS OWN4
          go_wp2_with fail
          go_roundw
          case measure => simp [intOf]; omega
          case rel => exact ⟨j + 1, _, by omega, rfl, by go_num, HO6, Lib.hid (((HX.out.ex (Ex.of X4.out _)).ex hex.out).snoc _ ao l cc d (EV4.out.ex hex.out) ((HBD.out.low (by simp; omega)).ex hex2.out)), BF, by omega⟩
      · have HI8 := Lib.hid (fun (W : World) (hb : Below wr.heap.size wr W) => atI8 a3 m c3 j vs W (HV.out.below (BWR.out.trans (hb.mono BWR.out.size))) (by omega) (by omega))
        go_wp2_with fail
        refine (HI8.out _ ((Below.refl _ _).alloc (Nat.le_refl _) _)).mono ?_
        rintro e wx ⟨rfl, rfl⟩
        clear HI8
        go_wp2_with fail
        refine (eNumber _ _).mono ?_
        rintro e w5 ⟨b5, rfl, h51, h52, hc5, hb5⟩
        have g0 : w5.cell? ⟨wr.heap.size, 0, none⟩ = some .nilIface := kept hb5 (by simp [go_sem])
        have g1 : w5.cell? ⟨wr.heap.size, 1, none⟩ = some (.int .i32 0) := kept hb5 (by simp [go_sem])
        have gf0 : w5.frozen? ⟨wr.heap.size, 0, none⟩ = false := keptF hb5 (o := 0) (v := .nilIface) (by simp [go_sem]) (by simp [go_sem])
        have gf1 : w5.frozen? ⟨wr.heap.size, 1, none⟩ = false := keptF hb5 (o := 1) (v := .int .i32 0) (by simp [go_sem]) (by simp [go_sem])
        have gl : wr.heap.size < w5.heap.size := World.block_lt_of_cell? _ _ g0
        have h51' : wr.heap.size + 1 ≤ b5 := by simpa using h51
        have B5 := Lib.hid (show Below wr.heap.size wr w5 from ((Below.refl _ _).alloc (Nat.le_refl _) _).trans (hb5.mono (by simp)))
        have HC5 := Lib.hid hc5
        clear hc5
        clear hb5 h51
        go_wp2_with fail
        obtain ⟨W4, hW4⟩ : ∃ W, W = (w5.setCell ⟨wr.heap.size, 0, none⟩ (.iface 101 (.pointer (some ⟨b5, 0, none⟩)))).setCell ⟨wr.heap.size, 1, none⟩ (.int .i32 0) := ⟨_, rfl⟩
        rw [← hW4]
        have v0 : W4.cell? ⟨wr.heap.size, 0, none⟩ = some (.iface 101 (.pointer (some ⟨b5, 0, none⟩))) := by rw [hW4]; simp [go_sem, g0, g1, gl]
        have v1 : W4.cell? ⟨wr.heap.size, 1, none⟩ = some (.int .i32 0) := by rw [hW4]; simp [go_sem, g0, g1, gl]
        have X4 := Lib.hid (show Below wr.heap.size wr W4 from by rw [hW4]; exact (B5.out.setCell (Nat.le_refl _) _).setCell (Nat.le_refl _) _)
        have EV4 := Lib.hid (show Ev (w1.heap.size + 1) W4 (kd ks j) (vz vs m j) (.iface 101 (.pointer (some ⟨b5, 0, none⟩))) from by rw [hW4]; exact .inr ⟨b5, by omega, by simp [World.setCell]; exact h52, .inl ⟨k3, rfl, kSet (kSet HC5.out (by omega)) (by omega)⟩⟩)
        have z4 : wr.heap.size < W4.heap.size := World.block_lt_of_cell? _ _ v0
        clear hW4 g0 g1 gf0 gf1
        have OWN4 := Lib.hid (World.ownsRow.drew ((Ex.of X4.out w1.heap.size).own (Nat.le_refl _) HW.out))
        have BW4 := Lib.hid (BWR.out.trans (X4.out.mono BWR.out.size))
        have HA := Lib.hid (fun (W : World) (hb : Below W4.heap.size W4 W) => atB a4 p c4 j bs W (HBs.out.below (BW4.out.trans (hb.mono BW4.out.size))) (by omega) (by omega))
        have H30 := Lib.hid (fun W => caseBody (vz bs p j) (bd bs p j) W rfl (vz_b hbs p j).1 (vz_b hbs p j).2)
        have HVS := Lib.hid EV4.out.shape
        have rne : wr.heap.size ≠ w1.heap.size := by omega
        have c0' := c0
        clear c0 c0' lB zz0 zz1 zc HKD
        go_region_held3 (fun w' => w'.cell? ⟨wr.heap.size, 0, none⟩ = some (.iface 101 (.pointer (some ⟨b5, 0, none⟩))) ∧ w'.cell? ⟨wr.heap.size, 1, none⟩ = some (.int .i32 0)) (repeat' (first | (refine And.intro ?_ ?_) | assumption | apply kAlloc | apply kDrew)) (first
          | (go_at_call 21; (with_reducible refine Calls.mono (HA.out _ ?hb) ?_); (case hb => with_reducible first | exact Below.refl _ _ | exact (Below.refl _ _).drew); rintro e w2 ⟨rfl, rfl⟩)
          | (go_at_call 30; (with_reducible refine Calls.mono (H30.out _) ?_); rintro e w2 ⟨d, s, rfl, hbd, hb30⟩; obtain ⟨ao, l, cc, rfl⟩ := hbd.shape; have s0 := kept hb30 v0; have s1 := kept hb30 v1)
          | (go_at_call 29; (with_reducible refine Calls.mono (zcase _ _ _ _ _ HVS.out) ?_); rintro e w3 ⟨rfl, hb29⟩; have r0 := kept hb29 s0; have r1 := kept hb29 s1)
          | (refine step_append_fits (by rfl) _ _ _ (by rfl) w1.heap.size 68 i0 4 Try.underlying66 I.out I1.out w1.heap.size j n xs (by rfl) (World.ownsRow.alloc ((Ex.of hb29 w1.heap.size).own (Nat.le_refl _) ((Ex.of hb30 w1.heap.size).own (Nat.le_refl _) OWN4.out)) _) ⟨w3.heap.size, 0, none⟩ 1 1 [.iface 101 (.pointer (some ⟨b5, 0, none⟩)), .int .i32 0, .slice ao l cc, .int .i32 0] (by rfl) (by rfl) (World.news_of_block (cs := #[.iface 101 (.pointer (some ⟨b5, 0, none⟩)), .int .i32 0, .slice ao l cc, .int .i32 0]) (t := 68) (fr := (0, 0)) (heap_alloc_new w3 _)) (by simp [Value.oneCell']) (by omega) ?_; intro w6 hown6 hgr6; have y0 := hgr6.cell (kAlloc r0) (by simp; omega); have y1 := hgr6.cell (kAlloc r1) (by simp; omega)))
        all_goals
          have HO6 := Lib.hid hown6
          have h30 := hb30.size
          have h29 := hb29.size
          have h6 := hgr6.size
          simp at h6 h30
          have hex2 := Lib.hid (show Ex (w1.heap.size + 1) w2 w6 from ((Ex.of hb29 _).alloc _).grown hgr6 (fun k hk => by simp only [Option.some.injEq] at hk; omega))
          have hex := Lib.hid (show Ex (w1.heap.size + 1) W4 w6 from (show Ex (w1.heap.size + 1) W4 w2 from Ex.of (a := W4.drew) hb30 _).trans hex2.out)
          have BF := Lib.hid (show Below w1.heap.size W1 w6 from ((((HL.out.trans (X4.out.mono (by omega))).drew.trans (hb30.mono (by simp; omega))).trans (hb29.mono (by omega))).alloc (by omega) _).grown hgr6 (by simp; omega) (fun q hq => by simp only [Option.some.injEq] at hq; omega))
          have HBD := Lib.hid hbd
          clear hown6 hgr6 hb30 hb29 hbd s0 s1 r0 r1 y0 y1 v0 v1 HA H30 HVS OWN4
          go_wp2_with fail
          go_roundw
          case measure => simp [intOf]; omega
          case rel => exact ⟨j + 1, _, by omega, rfl, by go_num, HO6, Lib.hid (((HX.out.ex (Ex.of X4.out _)).ex hex.out).snoc _ ao l cc d (EV4.out.ex hex.out) ((HBD.out.low (by simp; omega)).ex hex2.out)), BF, by omega⟩
      · go_wp2_with fail
        refine (eIdent _).mono ?_
        rintro e w5 ⟨b5, rfl, h51, h52, hb5⟩
        have g0 : w5.cell? ⟨wr.heap.size, 0, none⟩ = some .nilIface := kept hb5 (by simp [go_sem])
        have g1 : w5.cell? ⟨wr.heap.size, 1, none⟩ = some (.int .i32 0) := kept hb5 (by simp [go_sem])
        have gf0 : w5.frozen? ⟨wr.heap.size, 0, none⟩ = false := keptF hb5 (o := 0) (v := .nilIface) (by simp [go_sem]) (by simp [go_sem])
        have gf1 : w5.frozen? ⟨wr.heap.size, 1, none⟩ = false := keptF hb5 (o := 1) (v := .int .i32 0) (by simp [go_sem]) (by simp [go_sem])
        have gl : wr.heap.size < w5.heap.size := World.block_lt_of_cell? _ _ g0
        have h51' : wr.heap.size + 1 ≤ b5 := by simpa using h51
        have B5 := Lib.hid (show Below wr.heap.size wr w5 from ((Below.refl _ _).alloc (Nat.le_refl _) _).trans (hb5.mono (by simp)))
        clear hb5 h51
        go_wp2_with fail
        obtain ⟨W4, hW4⟩ : ∃ W, W = (w5.setCell ⟨wr.heap.size, 0, none⟩ (.iface 95 (.pointer (some ⟨b5, 0, none⟩)))).setCell ⟨wr.heap.size, 1, none⟩ (.int .i32 0) := ⟨_, rfl⟩
        rw [← hW4]
        have v0 : W4.cell? ⟨wr.heap.size, 0, none⟩ = some (.iface 95 (.pointer (some ⟨b5, 0, none⟩))) := by rw [hW4]; simp [go_sem, g0, g1, gl]
        have v1 : W4.cell? ⟨wr.heap.size, 1, none⟩ = some (.int .i32 0) := by rw [hW4]; simp [go_sem, g0, g1, gl]
        have X4 := Lib.hid (show Below wr.heap.size wr W4 from by rw [hW4]; exact (B5.out.setCell (Nat.le_refl _) _).setCell (Nat.le_refl _) _)
        have EV4 := Lib.hid (show Ev (w1.heap.size + 1) W4 (kd ks j) (vz vs m j) (.iface 95 (.pointer (some ⟨b5, 0, none⟩))) from by rw [hW4]; exact .inr ⟨b5, by omega, by simp [World.setCell]; exact h52, .inr ⟨k3, rfl⟩⟩)
        have z4 : wr.heap.size < W4.heap.size := World.block_lt_of_cell? _ _ v0
        clear hW4 g0 g1 gf0 gf1
        have OWN4 := Lib.hid (World.ownsRow.drew ((Ex.of X4.out w1.heap.size).own (Nat.le_refl _) HW.out))
        have BW4 := Lib.hid (BWR.out.trans (X4.out.mono BWR.out.size))
        have HA := Lib.hid (fun (W : World) (hb : Below W4.heap.size W4 W) => atB a4 p c4 j bs W (HBs.out.below (BW4.out.trans (hb.mono BW4.out.size))) (by omega) (by omega))
        have H30 := Lib.hid (fun W => caseBody (vz bs p j) (bd bs p j) W rfl (vz_b hbs p j).1 (vz_b hbs p j).2)
        have HVS := Lib.hid EV4.out.shape
        have rne : wr.heap.size ≠ w1.heap.size := by omega
        have c0' := c0
        clear c0 c0' lB zz0 zz1 zc HKD
        go_region_held3 (fun w' => w'.cell? ⟨wr.heap.size, 0, none⟩ = some (.iface 95 (.pointer (some ⟨b5, 0, none⟩))) ∧ w'.cell? ⟨wr.heap.size, 1, none⟩ = some (.int .i32 0)) (repeat' (first | (refine And.intro ?_ ?_) | assumption | apply kAlloc | apply kDrew)) (first
          | (go_at_call 21; (with_reducible refine Calls.mono (HA.out _ ?hb) ?_); (case hb => with_reducible first | exact Below.refl _ _ | exact (Below.refl _ _).drew); rintro e w2 ⟨rfl, rfl⟩)
          | (go_at_call 30; (with_reducible refine Calls.mono (H30.out _) ?_); rintro e w2 ⟨d, s, rfl, hbd, hb30⟩; obtain ⟨ao, l, cc, rfl⟩ := hbd.shape; have s0 := kept hb30 v0; have s1 := kept hb30 v1)
          | (go_at_call 29; (with_reducible refine Calls.mono (zcase _ _ _ _ _ HVS.out) ?_); rintro e w3 ⟨rfl, hb29⟩; have r0 := kept hb29 s0; have r1 := kept hb29 s1)
          | (refine step_append_fits (by rfl) _ _ _ (by rfl) w1.heap.size 68 i0 4 Try.underlying66 I.out I1.out w1.heap.size j n xs (by rfl) (World.ownsRow.alloc ((Ex.of hb29 w1.heap.size).own (Nat.le_refl _) ((Ex.of hb30 w1.heap.size).own (Nat.le_refl _) OWN4.out)) _) ⟨w3.heap.size, 0, none⟩ 1 1 [.iface 95 (.pointer (some ⟨b5, 0, none⟩)), .int .i32 0, .slice ao l cc, .int .i32 0] (by rfl) (by rfl) (World.news_of_block (cs := #[.iface 95 (.pointer (some ⟨b5, 0, none⟩)), .int .i32 0, .slice ao l cc, .int .i32 0]) (t := 68) (fr := (0, 0)) (heap_alloc_new w3 _)) (by simp [Value.oneCell']) (by omega) ?_; intro w6 hown6 hgr6; have y0 := hgr6.cell (kAlloc r0) (by simp; omega); have y1 := hgr6.cell (kAlloc r1) (by simp; omega)))
        all_goals
          have HO6 := Lib.hid hown6
          have h30 := hb30.size
          have h29 := hb29.size
          have h6 := hgr6.size
          simp at h6 h30
          have hex2 := Lib.hid (show Ex (w1.heap.size + 1) w2 w6 from ((Ex.of hb29 _).alloc _).grown hgr6 (fun k hk => by simp only [Option.some.injEq] at hk; omega))
          have hex := Lib.hid (show Ex (w1.heap.size + 1) W4 w6 from (show Ex (w1.heap.size + 1) W4 w2 from Ex.of (a := W4.drew) hb30 _).trans hex2.out)
          have BF := Lib.hid (show Below w1.heap.size W1 w6 from ((((HL.out.trans (X4.out.mono (by omega))).drew.trans (hb30.mono (by simp; omega))).trans (hb29.mono (by omega))).alloc (by omega) _).grown hgr6 (by simp; omega) (fun q hq => by simp only [Option.some.injEq] at hq; omega))
          have HBD := Lib.hid hbd
          clear hown6 hgr6 hb30 hb29 hbd s0 s1 r0 r1 y0 y1 v0 v1 HA H30 HVS OWN4
          go_wp2_with fail
          go_roundw
          case measure => simp [intOf]; omega
          case rel => exact ⟨j + 1, _, by omega, rfl, by go_num, HO6, Lib.hid (((HX.out.ex (Ex.of X4.out _)).ex hex.out).snoc _ ao l cc d (EV4.out.ex hex.out) ((HBD.out.low (by simp; omega)).ex hex2.out)), BF, by omega⟩
    · obtain rfl : j = n := by omega
      have k0 : wr.cell? ⟨w.heap.size, 0, none⟩ = some (.iface 95 (.pointer (some ⟨b1, 0, none⟩))) := (HL.out.cell (p := ⟨w.heap.size, 0, none⟩) (by simp; omega)).trans t0
      have k1 : wr.cell? ⟨w.heap.size, 1, none⟩ = some (.int .i32 0) := (HL.out.cell (p := ⟨w.heap.size, 1, none⟩) (by simp; omega)).trans t1
      have lwr : w.heap.size < wr.heap.size := World.block_lt_of_cell? _ _ k0
      go_wp2_with fail
      refine (zswitch _ _ _ _ _ _).mono ?_
      rintro e w7 ⟨sb, rfl, h0, h1, h2, hb7⟩
      have HO7 := Lib.hid ((Ex.of hb7 w1.heap.size).own (Nat.le_refl _) HW.out)
      have HX7 := Lib.hid (HX.out.ex (Ex.of hb7 _))
      have BF := Lib.hid (BWR.out.trans (hb7.mono BWR.out.size))
      have HT7 := Lib.hid (show Tst w7 true tv (.iface 95 (.pointer (some ⟨b1, 0, none⟩))) from ⟨b1, .inl ⟨rfl, rfl⟩⟩)
      have S0 := Lib.hid h0
      have S1 := Lib.hid h1
      have S2 := Lib.hid h2
      clear h0 h1 h2 hb7
      go_wp2_with fail
      go_ret
      exact ⟨sb, w1.heap.size, _, xs, rfl, HT7.out, S0.out, S1.out, S2.out, HO7.out, HX7.out, BF.out⟩
end Go.Proofs.Ytjnffbnipjkibaa
