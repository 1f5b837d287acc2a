/- Proved here: the contracts of copyLocs, pickLoc, the nodes' makers and buildTree. Conditions as stated. -/
import Derived.Test.YtjlmaingeobgeaaDoorRJA
import Derived.WalkKit
import Derived.WalkSpells
import Derived.WalkLawsBesides
import Derived.Lib.Hide
import Derived.Lib.SliceRun
import Derived.Deep.RegionWith
import Derived.OwnWalk
import Derived.Laws.OwnMore
import Derived.Deep.Grids
import Derived.BigRegion
import Derived.Carry
namespace Go.Proofs.YtjlmaingeobgeaaDoor
open Go.RowKit
set_option linter.unusedSimpArgs false
set_option linter.unusedVariables false

/-- What the copy 'cloneL' hands back of a slice that is not nil. -/
def cloneLPost (len : Nat) (zs : List Int) (w : World) (e : Ending) (w' : World) : Prop :=
  ∃ cs, e = .returned (.slice (some ⟨w.heap.size, 0, none⟩) len len) ∧ At w' w.heap.size 21 cs ∧ cs.size = len ∧ (∀ i, i < len → cs[i]? = some (.int .i32 (zs.getD i 0))) ∧ Below w.heap.size w w'
def cloneLRel (len : Nat) (zs : List Int) (w : World) (i : Value) (wr : World) : Prop :=
  ∃ (k : Nat) (cs : Array Value), k ≤ len ∧ i = .int .i64 k ∧ At wr w.heap.size 21 cs ∧ cs.size = len ∧ (∀ j, j < k → cs[j]? = some (.int .i32 (zs.getD j 0))) ∧ Below w.heap.size w wr
theorem cloneL_nil (w : World) : Calls Tryd.prog 35 #[.slice none 0 0] w fun e w' => e = .returned (.slice none 0 0) ∧ w = w' := by
  have qT : ∀ (w : World) (a : Option Addr) (n c n' c' : Nat), (binOp .eql 74 (.slice a n c) (.slice none n' c')).run Tryd.prog w = .ok (.bool a.isNone) w := fun w a n c n' c' => Lib.run_eql_slice_nil w 74 21 a n c n' c' Tryd.underlying74
  go_enter Tryd.func35, Tryd.ntmps35
  go_wp2_with fail
  go_ret
  exact ⟨rfl, rfl⟩
set_option maxRecDepth 100000 in
set_option maxHeartbeats 1000000 in
theorem cloneL_some (x : Addr) (len cap : Nat) (zs : List Int) (w : World) (hz : len ≤ zs.length) (hcell : ∀ i, i < zs.length → w.cell? (x.add i) = some (.int .i32 (zs.getD i 0))) (hlen : len ≤ 1048576) :
    Calls Tryd.prog 35 #[.slice (some x) len cap] w (cloneLPost len zs w) := by
  have qT : ∀ (w : World) (a : Option Addr) (n c n' c' : Nat), (binOp .eql 74 (.slice a n c) (.slice none n' c')).run Tryd.prog w = .ok (.bool a.isNone) w := fun w a n c n' c' => Lib.run_eql_slice_nil w 74 21 a n c n' c' Tryd.underlying74
  have hmk := made (P := Tryd.prog) (t := 74) (e := 21) (z := .int .i32 0) (sz := 1) (by_ := 4) Tryd.underlying74 (by kernel_rfl) w len (by omega) (by omega)
  rw [Nat.mul_one] at hmk
  have HC := Lib.hid hcell
  clear hcell
  go_enter Tryd.func35, Tryd.ntmps35
  go_wp2_with fail
  go_loopw [4] (fun i wr => cloneLRel len zs w i wr) (fun i _ => len - (intOf i).toNat)
  case atStart => exact ⟨0, _, Nat.zero_le _, rfl, At.new _ _ _, by simp [size_madeCells, Value.cells], fun j hj => absurd hj (by omega), (Below.refl _ _).alloc (Nat.le_refl _) _⟩
  case round =>
    obtain ⟨k, cs, hk, rfl, hat, hsz, hcs, hb⟩ := hrel
    by_cases hlt : k < len
    · have hc := HC.out k (by omega)
      obtain ⟨b, off, rfl⟩ := spot_none (HC.out 0 (by omega))
      rw [add_none] at hc
      have hc1 : wr.cell? ⟨b, off + k, none⟩ = some (.int .i32 (zs.getD k 0)) := by
        exact kept hb hc
      have hd : wr.cell? ⟨w.heap.size, k, none⟩ = some cs[k] := by rw [hat.cell k]; simp [hsz, hlt]
      have hf := hat.frozen k
      clear hc
      have HAT := Lib.hid hat
      have HCS := Lib.hid hcs
      have HSZ := Lib.hid hsz
      clear hat hcs
      go_wp2_with fail
      go_roundw
      case rel =>
        refine ⟨k + 1, _, by omega, by go_num, HAT.out.set k _, by simp [HSZ.out], ?_, hb.setCell (Nat.le_refl _) _⟩
        intro j hj
        by_cases e : j = k
        · subst e; simp [HSZ.out, hlt]
        · rw [Array.getElem?_setIfInBounds_ne (by omega)]; exact HCS.out j (by omega)
      case measure => simp [intOf]; omega
    · have e : k = len := by omega
      subst e
      have HAT := Lib.hid hat
      have HCS := Lib.hid hcs
      have HSZ := Lib.hid hsz
      clear hat hcs hsz
      go_wp2_with fail
      go_ret
      exact ⟨cs, rfl, HAT.out, HSZ.out, HCS.out, hb⟩

abbrev ex (T : TypeId) (p : Nat) : Value := .iface T (.pointer (some ⟨p, 0, none⟩))
abbrev il (l : Int) : Value := .int .i32 l
def CLP (N : Nat) (zs : List Int) (w : World) (e : Ending) (w' : World) : Prop := ∃ (lb : Nat) (a : Option Addr), e = .returned (.slice a N N) ∧ (0 < N → a = some ⟨lb, 0, none⟩) ∧ (∀ j, j < N → w'.cell? ⟨lb, j, none⟩ = some (il (zs.getD j 0))) ∧ Below w.heap.size w w'
theorem cloneAny (a : Option Addr) (len cap : Nat) (zs : List Int) (w : World) (h : IsRow .i32 w a len cap zs) (hlen : len ≤ 1048576) : Calls Tryd.prog 35 #[.slice a len cap] w (CLP len zs w) := by
  rcases h with ⟨rfl, rfl, rfl, rfl⟩ | ⟨x, rfl, h1, h2, h3, h4, _⟩
  · refine (cloneL_nil w).mono ?_
    rintro e w' ⟨rfl, rfl⟩
    exact ⟨0, none, rfl, fun h => absurd h (by omega), fun j hj => absurd hj (by omega), Below.refl _ _⟩
  · refine (cloneL_some x len cap zs w (by omega) h4 hlen).mono ?_
    rintro e w' ⟨cs, rfl, hat, hsz, hcs, hb⟩
    exact ⟨w.heap.size, _, rfl, fun _ => rfl, fun j hj => by rw [hat.cell]; exact hcs j hj, hb⟩
def pickV (zs : List Int) (N k : Nat) : Int := if N = 0 then ((k * 3 : Nat) : Int) else zs.getD (k % N) 0
theorem pick (a : Option Addr) (lb N k : Nat) (zs : List Int) (w : World) (hN : N ≤ 65536) (hk : k ≤ 100) (ha : 0 < N → a = some ⟨lb, 0, none⟩) (hc : ∀ j, j < N → w.cell? ⟨lb, j, none⟩ = some (il (zs.getD j 0))) :
    Calls Tryd.prog 62 #[.slice a N N, .int .i64 (k : Int)] w fun e w' => e = .returned (il (pickV zs N k)) ∧ w = w' := by
  have hN1 : (N : Int) ≤ 65536 := by omega
  have hN0 : (0 : Int) ≤ (N : Int) := Int.natCast_nonneg _
  have hk0 : (0 : Int) ≤ (k : Int) := Int.natCast_nonneg _
  have hk1 : (k : Int) ≤ 100 := by omega
  by_cases h : N = 0
  · subst h
    have HV := Lib.hid (show pickV zs 0 k = (k : Int) * 3 from by unfold pickV; rw [if_pos rfl]; omega)
    clear ha hc
    go_enter Tryd.func62, Tryd.ntmps62
    go_wp2_with fail
    go_ret
    exact ⟨by rw [HV.out]; rfl, rfl⟩
  · have hp : 0 < N := by omega
    obtain rfl := ha hp
    have hm : k % N < N := Nat.mod_lt _ hp
    obtain ⟨r, hr⟩ : ∃ r, r = k % N := ⟨_, rfl⟩
    have HV := Lib.hid (show pickV zs N k = zs.getD r 0 from by unfold pickV; rw [if_neg h, hr])
    have hcr := hc r (by omega)
    have lb0 := World.block_lt_of_cell? _ _ hcr
    have hpi : (0 : Int) < (N : Int) := by omega
    have hne : ((N : Int) == 0) = false := by simp; omega
    have hmod : (k : Int) % (N : Int) = (r : Int) := by rw [hr]; rfl
    have hmod2 : (k : Int).tmod (N : Int) = (r : Int) := by rw [Int.tmod_eq_emod_of_nonneg hk0]; exact hmod
    have hrN : (r : Int) < (N : Int) := by omega
    have hr0 : (0 : Int) ≤ (r : Int) := Int.natCast_nonneg _
    clear hr hc ha h hm
    go_enter Tryd.func62, Tryd.ntmps62
    go_wp2_with fail
    go_ret
    exact ⟨by rw [HV.out]; rfl, rfl⟩

/-- The cells of the first k items. -/
def IT (w : World) (xs : List Value) (k : Nat) (zs : List Int) : Prop := ∀ j, j < k → ∃ p, xs[j * 2]? = some (ex 212 p) ∧ xs[j * 2 + 1]? = some (il (zs.getD j 0)) ∧ At w p 214 #[.float .f64 (FloatKind.f64.nearest (j : Int))]
theorem IT.below {w w' : World} {xs : List Value} {k : Nat} {zs : List Int} (h : IT w xs k zs) (hb : Below w.heap.size w w') : IT w' xs k zs := fun j hj => by
  obtain ⟨p, h1, h2, h3⟩ := h j hj
  exact ⟨p, h1, h2, h3.below hb h3.lt⟩
theorem IT.snoc {w : World} {xs : List Value} {k : Nat} {zs : List Int} (h : IT w xs k zs) (hx : xs.length = k * 2) (p : Nat) (hp : At w p 214 #[.float .f64 (FloatKind.f64.nearest (k : Int))]) : IT w (xs ++ [ex 212 p, il (zs.getD k 0)]) (k + 1) zs := fun j hj => by
  by_cases e : j = k
  · subst e
    refine ⟨p, ?_, ?_, hp⟩
    · rw [List.getElem?_append_right (by omega), hx, Nat.sub_self]; rfl
    · rw [List.getElem?_append_right (by omega), hx, show j * 2 + 1 - j * 2 = 1 from by omega]; rfl
  · obtain ⟨p', h1, h2, h3⟩ := h j (by omega)
    exact ⟨p', by rw [List.getElem?_append_left (by omega)]; exact h1, by rw [List.getElem?_append_left (by omega)]; exact h2, h3⟩
def LL (zs : List Int) (N i : Nat) : Int := if i = 0 then pickV zs N 0 else if i = 1 then pickV zs N 1 else if i < N + 2 then zs.getD (i - 2) 0 else [pickV zs N 2, pickV zs N 3, pickV zs N 4, pickV zs N 7, pickV zs N 8, pickV zs N 5, pickV zs N 6, pickV zs N 9, pickV zs N 10, pickV zs N 11].getD (i - N - 2) 0
/-- The tree: its locations are L, in the order of flatten. D: where the written blocks begin. -/
structure TR (w : World) (D ra N : Nat) (L : Nat → Int) (ib cap eo pb ea ib2 ed es n5 n6 n11 : Nat) : Prop where
  lo : D ≤ ra ∧ D ≤ ib ∧ D ≤ eo ∧ D ≤ pb ∧ D ≤ ea ∧ D ≤ ib2
  ne : ra ≠ ea ∧ ib ≠ ib2
  root : At w ra 258 #[.slice (some ⟨ib, 0, none⟩) (N + 2) cap, il 0, il (L 1), .bool false, .bool false]
  row : ∃ cs, At w ib 35 cs ∧ (∀ j, j < N → ∃ p, cs[j * 2]? = some (ex 212 p) ∧ cs[j * 2 + 1]? = some (il (L (2 + j))) ∧ At w p 214 #[.float .f64 (FloatKind.f64.nearest (j : Int))]) ∧ cs[N * 2]? = some (ex 59 eo) ∧ cs[N * 2 + 1]? = some (il (L (N + 2))) ∧ cs[(N + 1) * 2]? = some (ex 262 ed) ∧ cs[(N + 1) * 2 + 1]? = some (il (L (N + 9)))
  capN : N + 2 ≤ cap ∧ cap ≤ maxLen
  obj : At w eo 71 #[.slice (some ⟨pb, 0, none⟩) 1 1, il 0, il (L (N + 3)), .bool false, .bool false]
  prop : At w pb 231 #[.pointer none, ex 223 es, il (L (N + 4)), ex 255 ea, il (L (N + 5)), .nilIface, il 0, .slice none 0 0, il 0, il 0, .int .u8 0, .int .u8 0]
  str : ∃ cs, At w es 225 cs ∧ cs[0]? = some (.slice none 0 0)
  arr : At w ea 258 #[.slice (some ⟨ib2, 0, none⟩) 2 2, il 0, il (L (N + 6)), .bool false, .bool false]
  row2 : At w ib2 35 #[ex 212 n5, il (L (N + 7)), ex 212 n6, il (L (N + 8))]
  dot : ∃ cs, At w ed 266 cs ∧ cs[0]? = some (ex 212 n11) ∧ cs[1]? = some (il (L (N + 11))) ∧ cs[3]? = some (il (L (N + 10)))
  f5 : At w n5 214 #[.float .f64 13830554455654793216]
  f6 : At w n6 214 #[.float .f64 13835058055282163712]
  f11 : At w n11 214 #[.float .f64 13837309855095848960]
def BT (N : Nat) (zs : List Int) (w : World) (e : Ending) (w' : World) : Prop := ∃ ra ib cap eo pb ea ib2 ed es n5 n6 n11, e = .returned (.agg #[ex 255 ra, il (LL zs N 0)]) ∧ TR w' w.heap.size ra N (LL zs N) ib cap eo pb ea ib2 ed es n5 n6 n11 ∧ Below w.heap.size w w'

theorem at2 (w : World) (o1 : Obj) (t : TypeId) (cs : Array Value) : At ((w.alloc o1).alloc (.cells cs t)) (w.heap.size + 1) t cs := by
  have := At.new (w.alloc o1) t cs
  rwa [show (w.alloc o1).heap.size = w.heap.size + 1 from by simp] at this
theorem at3 (w : World) (o1 o2 : Obj) (t : TypeId) (cs : Array Value) : At (((w.alloc o1).alloc o2).alloc (.cells cs t)) (w.heap.size + 1 + 1) t cs := by
  have := at2 (w.alloc o1) o2 t cs
  rwa [show (w.alloc o1).heap.size = w.heap.size + 1 from by simp] at this
theorem at4 (w : World) (o1 o2 o3 : Obj) (t : TypeId) (cs : Array Value) : At ((((w.alloc o1).alloc o2).alloc o3).alloc (.cells cs t)) (w.heap.size + 1 + 1 + 1) t cs := by
  have := at3 (w.alloc o1) o2 o3 t cs
  rwa [show (w.alloc o1).heap.size = w.heap.size + 1 from by simp] at this
theorem at5 (w : World) (o1 o2 o3 o4 : Obj) (t : TypeId) (cs : Array Value) : At (((((w.alloc o1).alloc o2).alloc o3).alloc o4).alloc (.cells cs t)) (w.heap.size + 1 + 1 + 1 + 1) t cs := by
  have := at4 (w.alloc o1) o2 o3 o4 t cs
  rwa [show (w.alloc o1).heap.size = w.heap.size + 1 from by simp] at this
def NumP (l : Int) (f : Nat) (w : World) (e : Ending) (w' : World) : Prop := ∃ p, e = .returned (.agg #[ex 212 p, il l]) ∧ At w' p 214 #[.float .f64 f] ∧ w.heap.size ≤ p ∧ Below w.heap.size w w'
set_option maxRecDepth 100000 in
theorem zNum (l : Int) (f : Nat) (w : World) : Calls Tryd.prog 61 #[il l, .float .f64 f] w (NumP l f w) := by
  go_enter Tryd.func61, Tryd.ntmps61
  go_wp2_with fail
  exact bodyPost_ret (v := .agg #[ex 212 (w.heap.size + 1), il l]) (by simp [results, Tryd.results61, go_sem]) rfl ⟨w.heap.size + 1, rfl, at2 _ _ _ _, by omega, ((Below.refl _ _).alloc (Nat.le_refl _) _).alloc (by simp) _⟩
def StrP (l : Int) (w : World) (e : Ending) (w' : World) : Prop := ∃ p, e = .returned (.agg #[ex 223 p, il l]) ∧ (∃ cs, At w' p 225 cs ∧ cs[0]? = some (.slice none 0 0)) ∧ w.heap.size ≤ p ∧ Below w.heap.size w w'
set_option maxRecDepth 100000 in
theorem zStr (l : Int) (w : World) : Calls Tryd.prog 64 #[il l] w (StrP l w) := by
  go_enter Tryd.func64, Tryd.ntmps64
  go_wp2_with fail
  exact bodyPost_ret (v := .agg #[ex 223 (w.heap.size + 1), il l]) (by simp [results, Tryd.results64, go_sem]) rfl ⟨w.heap.size + 1, rfl, ⟨_, at2 _ _ _ _, rfl⟩, by omega, ((Below.refl _ _).alloc (Nat.le_refl _) _).alloc (by simp) _⟩
def ArrP (l c : Int) (v : Value) (w : World) (e : Ending) (w' : World) : Prop := ∃ p, e = .returned (.agg #[ex 255 p, il l]) ∧ At w' p 258 #[v, il 0, il c, .bool false, .bool false] ∧ w.heap.size ≤ p ∧ Below w.heap.size w w'
set_option maxRecDepth 100000 in
theorem zArr (l c : Int) (ar : Addr) (n cap : Nat) (w : World) : Calls Tryd.prog 65 #[il l, il c, .slice (some ar) n cap] w (ArrP l c (.slice (some ar) n cap) w) := by
  go_enter Tryd.func65, Tryd.ntmps65
  go_wp2_with fail
  exact bodyPost_ret (v := .agg #[ex 255 (w.heap.size + 1), il l]) (by simp [results, Tryd.results65, go_sem]) rfl ⟨w.heap.size + 1, rfl, at2 _ _ _ _, by omega, ((Below.refl _ _).alloc (Nat.le_refl _) _).alloc (by simp) _⟩
def ObjP (l c : Int) (T1 T2 : TypeId) (p1 p2 : Nat) (l1 l2 : Int) (w : World) (e : Ending) (w' : World) : Prop := ∃ p b, e = .returned (.agg #[ex 59 p, il l]) ∧ At w' p 71 #[.slice (some ⟨b, 0, none⟩) 1 1, il 0, il c, .bool false, .bool false] ∧ At w' b 231 #[.pointer none, ex T1 p1, il l1, ex T2 p2, il l2, .nilIface, il 0, .slice none 0 0, il 0, il 0, .int .u8 0, .int .u8 0] ∧ w.heap.size ≤ p ∧ w.heap.size ≤ b ∧ Below w.heap.size w w'
set_option maxRecDepth 100000 in
theorem zObj (l c : Int) (T1 T2 : TypeId) (p1 p2 : Nat) (l1 l2 : Int) (w : World) : Calls Tryd.prog 63 #[il l, il c, .agg #[ex T1 p1, il l1], .agg #[ex T2 p2, il l2]] w (ObjP l c T1 T2 p1 p2 l1 l2 w) := by
  go_enter Tryd.func63, Tryd.ntmps63
  go_wp2_with fail
  exact bodyPost_ret (v := .agg #[ex 59 (w.heap.size + 1 + 1 + 1 + 1), il l]) (by simp [results, Tryd.results63, go_sem]) rfl ⟨w.heap.size + 1 + 1 + 1 + 1, w.heap.size + 1 + 1 + 1, rfl, at5 _ _ _ _ _ _ _, (at4 _ _ _ _ _ _).alloc _, by omega, by omega, ((((((Below.refl _ _).alloc (Nat.le_refl _) _).alloc (by simp) _).alloc (by simp; omega) _).alloc (by simp; omega) _).alloc (by simp; omega) _)⟩
def DotP (l c : Int) (T1 : TypeId) (p1 : Nat) (l1 : Int) (w : World) (e : Ending) (w' : World) : Prop := ∃ p, e = .returned (.agg #[ex 262 p, il l]) ∧ (∃ cs, At w' p 266 cs ∧ cs[0]? = some (ex T1 p1) ∧ cs[1]? = some (il l1) ∧ cs[3]? = some (il c)) ∧ w.heap.size ≤ p ∧ Below w.heap.size w w'
set_option maxRecDepth 100000 in
theorem zDot (l c : Int) (T1 : TypeId) (p1 : Nat) (l1 : Int) (w : World) : Calls Tryd.prog 66 #[il l, il c, .agg #[ex T1 p1, il l1]] w (DotP l c T1 p1 l1 w) := by
  go_enter Tryd.func66, Tryd.ntmps66
  go_wp2_with fail
  exact bodyPost_ret (v := .agg #[ex 262 (w.heap.size + 1 + 1), il l]) (by simp [results, Tryd.results66, go_sem]) rfl ⟨w.heap.size + 1 + 1, rfl, ⟨_, at3 _ _ _ _ _, rfl, rfl, rfl⟩, by omega, (((Below.refl _ _).alloc (Nat.le_refl _) _).alloc (by simp) _).alloc (by simp; omega) _⟩
end Go.Proofs.YtjlmaingeobgeaaDoor
