/- Proved here: maps as lists of entries. Conditions as stated. -/
import Derived.Test.YtoblkmnhoiodcaaDoorBase
import Derived.WalkKit
import Derived.WalkSpells
import Derived.WalkLawsBesides
import Derived.Lib.Hide
import Derived.Lib.SliceRun
import Derived.Deep.RegionWith
import Derived.OwnWalk
import Derived.Laws.OwnMore
import Derived.MapKept
import Derived.WideMake
namespace Go.Proofs.YtoblkmnhoiodcaaDoor
open Go.RowKit
set_option linter.unusedSimpArgs false
set_option linter.unusedVariables false

namespace IM
section
variable {K : Type} [DecidableEq K]
def look : List (K × Value) → K → Option Value
  | [], _ => none
  | p :: L, k => if p.1 = k then some p.2 else look L k
def upd : List (K × Value) → K → Value → List (K × Value)
  | [], k, v => [(k, v)]
  | p :: L, k, v => if p.1 = k then (k, v) :: L else p :: upd L k v
def fidx : List (K × Value) → K → Nat → Option (Nat × Value)
  | [], _, _ => none
  | p :: L, k, i => if p.1 = k then some (i, p.2) else fidx L k (i + 1)
theorem fidx_look (L : List (K × Value)) (k : K) : ∀ i, (fidx L k i).map (·.2) = look L k := by
  induction L with
  | nil => intro i; rfl
  | cons p L ih =>
    intro i
    unfold fidx look
    split
    · rfl
    · exact ih _
theorem fidx_none (L : List (K × Value)) (k : K) (v : Value) : ∀ i, fidx L k i = none → upd L k v = L ++ [(k, v)] := by
  induction L with
  | nil => intro i _; rfl
  | cons p L ih =>
    intro i h
    unfold fidx at h
    unfold upd
    split at h
    · cases h
    · rename_i hp
      rw [if_neg hp, ih _ h]; rfl
theorem fidx_some (L : List (K × Value)) (k : K) (v : Value) : ∀ i j u, fidx L k i = some (j, u) → ∃ q, j = i + q ∧ q < L.length ∧ (L[q]?).map (·.1) = some k ∧ upd L k v = L.modify q (fun _ => (k, v)) := by
  induction L with
  | nil => intro i j u h; cases h
  | cons p L ih =>
    intro i j u h
    unfold fidx at h
    unfold upd
    split at h
    · rename_i hp
      simp only [Option.some.injEq, Prod.mk.injEq] at h
      exact ⟨0, by omega, by simp, by simp [hp], by rw [if_pos hp]; rfl⟩
    · rename_i hp
      obtain ⟨q, h1, h2, h3, h4⟩ := ih _ _ _ h
      exact ⟨q + 1, by omega, by simp; omega, by simpa using h3, by rw [if_neg hp, h4]; rfl⟩
theorem look_upd (L : List (K × Value)) (k k' : K) (v : Value) : look (upd L k v) k' = if k = k' then some v else look L k' := by
  induction L with
  | nil => simp only [upd, look]
  | cons p L ih =>
    unfold upd
    split
    · rename_i hp
      simp only [look]
      rw [hp]
      split <;> rfl
    · rename_i hp
      simp only [look]
      by_cases h1 : p.1 = k'
      · rw [if_pos h1, if_pos h1, if_neg (by rw [← h1]; exact fun e => hp e.symm)]
      · rw [if_neg h1, if_neg h1, ih]
end
section
variable {K : Type}
/-- A map's entries: keys and values, in the order of the entries. -/
def EL (mk : K → Value) (es : Array MapEntry) (L : List (K × Value)) : Prop := es.toList.map (fun e => (e.key, e.val)) = L.map (fun p => (mk p.1, p.2))
theorem EL.push {mk : K → Value} {es : Array MapEntry} {L : List (K × Value)} (h : EL mk es L) (k : K) (v : Value) (b : Nat) : EL mk (es.push ⟨mk k, v, b⟩) (L ++ [(k, v)]) := by
  unfold EL at *
  simp [h]
theorem EL.modify {mk : K → Value} {es : Array MapEntry} {L : List (K × Value)} (h : EL mk es L) (q : Nat) (k : K) (v : Value) : EL mk (es.modify q fun e => { e with key := mk k, val := v }) (L.modify q (fun _ => (k, v))) := by
  unfold EL at *
  apply List.ext_getElem?
  intro j
  have hj := congrArg (fun l => l[j]?) h
  simp only [List.getElem?_map, Array.getElem?_toList, Array.getElem?_modify, List.getElem?_modify] at hj ⊢
  by_cases e : q = j
  · subst e
    cases h1 : es[q]? <;> cases h2 : L[q]? <;> simp_all
  · simp only [e, if_false] at *
    cases h1 : es[j]? <;> cases h2 : L[j]? <;> simp_all
theorem EL.size {mk : K → Value} {es : Array MapEntry} {L : List (K × Value)} (h : EL mk es L) : es.size = L.length := by
  have := congrArg List.length h
  simpa using this
/-- The entries' stamps: all below c, no two alike. -/
def BN (es : Array MapEntry) (c : Nat) : Prop := (∀ x ∈ es.toList, x.born < c) ∧ (es.toList.map (·.born)).Nodup
theorem BN.push {es : Array MapEntry} {c : Nat} (h : BN es c) (k v : Value) : BN (es.push ⟨k, v, c⟩) (c + 1) := by
  obtain ⟨h1, h2⟩ := h
  refine ⟨fun x hx => ?_, ?_⟩
  · simp at hx
    rcases hx with hx | rfl
    · have := h1 x (by simpa using hx); omega
    · simp
  · simp only [Array.toList_push, List.map_append, List.map_cons, List.map_nil, List.nodup_append]
    refine ⟨h2, by simp, fun a ha b hb => ?_⟩
    simp only [List.mem_singleton] at hb
    obtain ⟨x, hx, rfl⟩ := List.mem_map.1 ha
    have := h1 x hx
    omega
theorem BN.modify {es : Array MapEntry} {c : Nat} (h : BN es c) (i : Nat) (k v : Value) : BN (es.modify i fun e => { e with key := k, val := v }) c := by
  have hm : (es.modify i fun e => { e with key := k, val := v }).toList.map (·.born) = es.toList.map (·.born) := by
    apply List.ext_getElem?
    intro j
    simp only [List.getElem?_map, Array.getElem?_toList, Array.getElem?_modify]
    split
    · cases es[j]? <;> simp
    · rfl
  obtain ⟨h1, h2⟩ := h
  refine ⟨fun x hx => ?_, by rw [hm]; exact h2⟩
  have hb : x.born ∈ es.toList.map (·.born) := by rw [← hm]; exact List.mem_map.2 ⟨x, hx, rfl⟩
  obtain ⟨y, hy, hxy⟩ := List.mem_map.1 hb
  have := h1 y hy
  omega
def MP (mk : K → Value) (w : World) (r : Nat) (L : List (K × Value)) : Prop := ∃ es clock, w.heap[r]? = some (.map es clock) ∧ EL mk es L ∧ BN es clock
theorem MP.of_block {mk : K → Value} {w w' : World} {r : Nat} {L : List (K × Value)} (h : MP mk w r L) (e : w'.heap[r]? = w.heap[r]?) : MP mk w' r L := by
  obtain ⟨es, c, h1, h2, h3⟩ := h
  exact ⟨es, c, e.trans h1, h2, h3⟩
theorem MP.lt {mk : K → Value} {w : World} {r : Nat} {L : List (K × Value)} (h : MP mk w r L) : r < w.heap.size := by
  obtain ⟨es, c, h1, h2⟩ := h
  exact (Array.getElem?_eq_some_iff.1 h1).1
theorem MP.empty {mk : K → Value} {w : World} {r : Nat} (h : w.heap[r]? = some (.map #[] 0)) : MP mk w r ([] : List (K × Value)) := ⟨_, _, h, rfl, by simp [BN]⟩
end
def mput (w : World) (m : Nat) (o : Obj) : World := { w with heap := w.heap.setIfInBounds m o }
theorem mput_other (w : World) (m : Nat) (o : Obj) (k : Nat) (h : k ≠ m) : (mput w m o).heap[k]? = w.heap[k]? := by simp [mput, Ne.symm h]
theorem mput_size (w : World) (m : Nat) (o : Obj) : (mput w m o).heap.size = w.heap.size := by simp [mput]
theorem mput_same (w : World) (m : Nat) (o : Obj) (h : m < w.heap.size) : (mput w m o).heap[m]? = some o := by simp [mput, h]
theorem mput_below {B : Nat} {a w : World} (h : Below B a w) (m : Nat) (o : Obj) (hm : B ≤ m) : Below B a (mput w m o) := ⟨h.os, h.tape, h.output, by rw [mput_size]; exact h.size, fun k hk => (mput_other w m o k (by omega)).trans (h.block k hk)⟩
abbrev mkS (s : ByteArray) : Value := .string s
abbrev mkR (k : Int × Int) : Value := .agg #[.int .u32 k.1, .int .u32 k.2]
theorem findS : ∀ (l : List MapEntry) (L : List (ByteArray × Value)) (k : ByteArray) (i : Nat), l.map (fun e => (e.key, e.val)) = L.map (fun p => (mkS p.1, p.2)) → Instr.findNow .string (.string k) l i = some (fidx L k i) := by
  intro l
  induction l with
  | nil =>
    intro L k i h
    cases L with
    | nil => rfl
    | cons p L => simp at h
  | cons e l ih =>
    intro L k i h
    cases L with
    | nil => simp at h
    | cons p L =>
      simp only [List.map_cons, List.cons.injEq, Prod.mk.injEq] at h
      obtain ⟨⟨hk, hv⟩, ht⟩ := h
      unfold Instr.findNow fidx
      rw [hk]
      simp only [Instr.sameNow, mkS]
      by_cases hp : p.1 = k
      · rw [if_pos hp, (MapKept.bytes_beq k p.1).2 hp.symm, hv]
      · rw [if_neg hp]
        have : (k == p.1) = false := by
          cases hb : (k == p.1)
          · rfl
          · exact absurd ((MapKept.bytes_beq k p.1).1 hb).symm hp
        rw [this]
        exact ih L k (i + 1) ht
theorem eqR (a b : Int × Int) (w : World) : (Op.equal 34 (mkR a) (mkR b)).run Tryd.prog w = .ok (decide (b = a)) w := by
  obtain ⟨a1, a2⟩ := a
  obtain ⟨b1, b2⟩ := b
  show (Op.equalIn 10000 34 (mkR (a1, a2)) (mkR (b1, b2))).run Tryd.prog w = _
  go_simp
  by_cases h1 : a1 = b1 <;> by_cases h2 : a2 = b2 <;> simp [h1, h2, eq_comm]
theorem chkR (c : Bool) (a : Int × Int) (w : World) : (Instr.checkKey c 10000 34 (mkR a)).run Tryd.prog w = .ok () w := by
  have hc : ∀ x, (Instr.checkKey c 9999 24 (.int .u32 x)).run Tryd.prog w = .ok () w := fun x => MapKept.run_checkKey (k := .int .u32 x) Tryd.underlying24 (by simp [MapKept.IsKey]) c 9998
  unfold Instr.checkKey
  go_simp
  all_goals (simp [hc, Result.andThen])
theorem findAskR : ∀ (l : List MapEntry) (L : List ((Int × Int) × Value)) (k : Int × Int) (i : Nat) (w : World), l.map (fun e => (e.key, e.val)) = L.map (fun p => (mkR p.1, p.2)) → (Instr.findAsking 34 (mkR k) l i).run Tryd.prog w = .ok (fidx L k i) w := by
  intro l
  induction l with
  | nil =>
    intro L k i w h
    cases L with
    | nil => simp [Instr.findAsking, fidx, Sem.run_pure]
    | cons p L => simp at h
  | cons e l ih =>
    intro L k i w h
    cases L with
    | nil => simp at h
    | cons p L =>
      simp only [List.map_cons, List.cons.injEq, Prod.mk.injEq] at h
      obtain ⟨⟨hk, hv⟩, ht⟩ := h
      unfold Instr.findAsking fidx
      rw [hk]
      simp only [Sem.run_bind, eqR, Result.andThen_ok]
      by_cases hp : p.1 = k
      · simp [hp, Sem.run_pure, hv]
      · simp only [hp, decide_false, if_false, Bool.false_eq_true]
        exact ih L k (i + 1) w ht
theorem findR {es : Array MapEntry} {L : List ((Int × Int) × Value)} (h : EL mkR es L) (k : Int × Int) (w : World) : (Instr.findKey 34 (mkR k) es.toList).run Tryd.prog w = .ok (fidx L k 0) w := by
  unfold Instr.findKey
  simp only [Sem.run_bind, run_underlying Tryd.underlying34, Result.andThen_ok]
  cases hl : es.toList with
  | nil =>
    have : L = [] := by
      have h' := h
      unfold EL at h'
      rw [hl] at h'
      cases L with
      | nil => rfl
      | cons p L => simp at h'
    subst this
    simp [Instr.findNow, fidx, Sem.run_pure]
  | cons e l =>
    have hn : ∀ fs, Instr.findNow (.struct fs) (mkR k) (e :: l) 0 = none := fun _ => rfl
    have h' := h
    unfold EL at h'
    rw [hl] at h'
    have hr := findAskR (e :: l) L k 0 w h'
    simp only [hn]
    exact hr
theorem findSt {es : Array MapEntry} {L : List (ByteArray × Value)} (h : EL mkS es L) (k : ByteArray) (w : World) : (Instr.findKey 9 (mkS k) es.toList).run Tryd.prog w = .ok (fidx L k 0) w := MapKept.run_findKey Tryd.underlying9 (findS _ _ _ _ h)

theorem look_ms {w : World} {r : Nat} {L : List (ByteArray × Value)} (h : MP mkS w r L) (k : ByteArray) (c : Bool) : (Instr.lookup 29 (.map (some r)) (mkS k) c).run Tryd.prog w = .ok (if c then .tuple #[(look L k).getD (.agg #[.int .i32 0, .int .u32 0, .int .u32 0]), .bool (look L k).isSome] else (look L k).getD (.agg #[.int .i32 0, .int .u32 0, .int .u32 0])) w := by
  obtain ⟨es, clock, hm, hE, hN⟩ := h
  have hf := findSt hE k w
  have hc : ∀ c, (Instr.checkKey c 10000 9 (mkS k)).run Tryd.prog w = .ok () w := fun c => MapKept.run_checkKey (k := .string k) Tryd.underlying9 (by simp [MapKept.IsKey]) c 9999
  have hz : (zeroValue 36).run Tryd.prog w = .ok (.agg #[.int .i32 0, .int .u32 0, .int .u32 0]) w := by kernel_rfl
  have hl := fidx_look L k 0
  simp only [Instr.lookup, Sem.run_bind, run_underlying Tryd.underlying29, MapKept.run_getObj_map hm, hc, hf, Result.andThen_ok, Sem.run_pure]
  cases hx : fidx L k 0 with
  | none =>
    rw [hx] at hl
    rw [← hl]
    cases c <;> simp [hz, Sem.run_pure, Result.andThen]
  | some x =>
    rw [hx] at hl
    rw [← hl]
    cases c <;> simp [Sem.run_pure, Result.andThen]
theorem upd_ms {w : World} {r : Nat} {L : List (ByteArray × Value)} (h : MP mkS w r L) (k : ByteArray) (v : Value) : ∃ o, (Instr.mapUpdate 29 (.map (some r)) (mkS k) v).run Tryd.prog w = .ok () (mput w r o) ∧ MP mkS (mput w r o) r (upd L k v) := by
  have hlt := h.lt
  obtain ⟨es, clock, hm, hE, hN⟩ := h
  have hf := findSt hE k w
  have hc : (Instr.checkKey false 10000 9 (mkS k)).run Tryd.prog w = .ok () w := MapKept.run_checkKey (k := .string k) Tryd.underlying9 (by simp [MapKept.IsKey]) false 9999
  cases hx : fidx L k 0 with
  | none =>
    rw [hx] at hf
    refine ⟨.map (es.push ⟨mkS k, v, clock⟩) (clock + 1), ?_, _, _, mput_same _ _ _ hlt, by rw [fidx_none L k v 0 hx]; exact hE.push k v clock, hN.push _ _⟩
    simp [Instr.mapUpdate, run_underlying Tryd.underlying29, MapKept.run_getObj_map hm, hc, hf, MapKept.run_setObj_map _ hm, Result.andThen, mput]
  | some x =>
    obtain ⟨i, u⟩ := x
    rw [hx] at hf
    obtain ⟨q, h1, h2, h3, h4⟩ := fidx_some L k v 0 i u hx
    obtain rfl : i = q := by omega
    have hsz := hE.size
    have hkey : ((es[i]?).map (·.key)).getD (mkS k) = mkS k := by
      have hE' := hE
      unfold EL at hE'
      have hj := congrArg (fun l => l[i]?) hE'
      simp only [List.getElem?_map, Array.getElem?_toList] at hj
      cases a1 : es[i]? with
      | none => rfl
      | some e1 =>
        cases a2 : L[i]? with
        | none => rw [a2] at h3; cases h3
        | some p1 =>
          rw [a1, a2] at hj
          rw [a2] at h3
          simp only [Option.map_some, Option.some.injEq, Prod.mk.injEq] at hj h3
          simp only [Option.map_some, Option.getD_some]
          rw [hj.1, h3]
    have hst : (Instr.keyThatStays (mkS k) (mkS k)).run Tryd.prog w = .ok (mkS k) w := by
      unfold Instr.keyThatStays
      rw [if_pos (by simp [Instr.sameBits, (MapKept.bytes_beq k k).2 rfl])]
      simp [Sem.run_pure]
    refine ⟨.map (es.modify i fun e => { e with key := mkS k, val := v }) clock, ?_, _, _, mput_same _ _ _ hlt, by rw [h4]; exact hE.modify i k v, hN.modify i _ _⟩
    simp [Instr.mapUpdate, run_underlying Tryd.underlying29, MapKept.run_getObj_map hm, hc, hf, MapKept.run_setObj_map _ hm, Result.andThen, mput, hkey, hst]

theorem look_mb {w : World} {r : Nat} {L : List ((Int × Int) × Value)} (h : MP mkR w r L) (k : (Int × Int)) (c : Bool) : (Instr.lookup 164 (.map (some r)) (mkR k) c).run Tryd.prog w = .ok (if c then .tuple #[(look L k).getD (.bool false), .bool (look L k).isSome] else (look L k).getD (.bool false)) w := by
  obtain ⟨es, clock, hm, hE, hN⟩ := h
  have hf := findR hE k w
  have hc : ∀ c, (Instr.checkKey c 10000 34 (mkR k)).run Tryd.prog w = .ok () w := fun c => chkR c k w
  have hz : (zeroValue 4).run Tryd.prog w = .ok (.bool false) w := by kernel_rfl
  have hl := fidx_look L k 0
  simp only [Instr.lookup, Sem.run_bind, run_underlying Tryd.underlying164, MapKept.run_getObj_map hm, hc, hf, Result.andThen_ok, Sem.run_pure]
  cases hx : fidx L k 0 with
  | none =>
    rw [hx] at hl
    rw [← hl]
    cases c <;> simp [hz, Sem.run_pure, Result.andThen]
  | some x =>
    rw [hx] at hl
    rw [← hl]
    cases c <;> simp [Sem.run_pure, Result.andThen]
theorem upd_mb {w : World} {r : Nat} {L : List ((Int × Int) × Value)} (h : MP mkR w r L) (k : (Int × Int)) (v : Value) : ∃ o, (Instr.mapUpdate 164 (.map (some r)) (mkR k) v).run Tryd.prog w = .ok () (mput w r o) ∧ MP mkR (mput w r o) r (upd L k v) := by
  have hlt := h.lt
  obtain ⟨es, clock, hm, hE, hN⟩ := h
  have hf := findR hE k w
  have hc : (Instr.checkKey false 10000 34 (mkR k)).run Tryd.prog w = .ok () w := chkR false k w
  cases hx : fidx L k 0 with
  | none =>
    rw [hx] at hf
    refine ⟨.map (es.push ⟨mkR k, v, clock⟩) (clock + 1), ?_, _, _, mput_same _ _ _ hlt, by rw [fidx_none L k v 0 hx]; exact hE.push k v clock, hN.push _ _⟩
    simp [Instr.mapUpdate, run_underlying Tryd.underlying164, MapKept.run_getObj_map hm, hc, hf, MapKept.run_setObj_map _ hm, Result.andThen, mput]
  | some x =>
    obtain ⟨i, u⟩ := x
    rw [hx] at hf
    obtain ⟨q, h1, h2, h3, h4⟩ := fidx_some L k v 0 i u hx
    obtain rfl : i = q := by omega
    have hsz := hE.size
    have hkey : ((es[i]?).map (·.key)).getD (mkR k) = mkR k := by
      have hE' := hE
      unfold EL at hE'
      have hj := congrArg (fun l => l[i]?) hE'
      simp only [List.getElem?_map, Array.getElem?_toList] at hj
      cases a1 : es[i]? with
      | none => rfl
      | some e1 =>
        cases a2 : L[i]? with
        | none => rw [a2] at h3; cases h3
        | some p1 =>
          rw [a1, a2] at hj
          rw [a2] at h3
          simp only [Option.map_some, Option.some.injEq, Prod.mk.injEq] at hj h3
          simp only [Option.map_some, Option.getD_some]
          rw [hj.1, h3]
    have hst : (Instr.keyThatStays (mkR k) (mkR k)).run Tryd.prog w = .ok (mkR k) w := by
      unfold Instr.keyThatStays
      rw [if_pos (by simp [Instr.sameBits])]
      simp [Sem.run_pure]
    refine ⟨.map (es.modify i fun e => { e with key := mkR k, val := v }) clock, ?_, _, _, mput_same _ _ _ hlt, by rw [h4]; exact hE.modify i k v, hN.modify i _ _⟩
    simp [Instr.mapUpdate, run_underlying Tryd.underlying164, MapKept.run_getObj_map hm, hc, hf, MapKept.run_setObj_map _ hm, Result.andThen, mput, hkey, hst]

theorem look_mn {w : World} {r : Nat} {L : List ((Int × Int) × Value)} (h : MP mkR w r L) (k : (Int × Int)) (c : Bool) : (Instr.lookup 168 (.map (some r)) (mkR k) c).run Tryd.prog w = .ok (if c then .tuple #[(look L k).getD (.agg #[.string ⟨#[]⟩, .slice none 0 0, .int .i32 0, .int .u32 0, .int .u32 0, .int .u32 0, .bool false, .bool false]), .bool (look L k).isSome] else (look L k).getD (.agg #[.string ⟨#[]⟩, .slice none 0 0, .int .i32 0, .int .u32 0, .int .u32 0, .int .u32 0, .bool false, .bool false])) w := by
  obtain ⟨es, clock, hm, hE, hN⟩ := h
  have hf := findR hE k w
  have hc : ∀ c, (Instr.checkKey c 10000 34 (mkR k)).run Tryd.prog w = .ok () w := fun c => chkR c k w
  have hz : (zeroValue 86).run Tryd.prog w = .ok (.agg #[.string ⟨#[]⟩, .slice none 0 0, .int .i32 0, .int .u32 0, .int .u32 0, .int .u32 0, .bool false, .bool false]) w := by kernel_rfl
  have hl := fidx_look L k 0
  simp only [Instr.lookup, Sem.run_bind, run_underlying Tryd.underlying168, MapKept.run_getObj_map hm, hc, hf, Result.andThen_ok, Sem.run_pure]
  cases hx : fidx L k 0 with
  | none =>
    rw [hx] at hl
    rw [← hl]
    cases c <;> simp [hz, Sem.run_pure, Result.andThen]
  | some x =>
    rw [hx] at hl
    rw [← hl]
    cases c <;> simp [Sem.run_pure, Result.andThen]
theorem upd_mn {w : World} {r : Nat} {L : List ((Int × Int) × Value)} (h : MP mkR w r L) (k : (Int × Int)) (v : Value) : ∃ o, (Instr.mapUpdate 168 (.map (some r)) (mkR k) v).run Tryd.prog w = .ok () (mput w r o) ∧ MP mkR (mput w r o) r (upd L k v) := by
  have hlt := h.lt
  obtain ⟨es, clock, hm, hE, hN⟩ := h
  have hf := findR hE k w
  have hc : (Instr.checkKey false 10000 34 (mkR k)).run Tryd.prog w = .ok () w := chkR false k w
  cases hx : fidx L k 0 with
  | none =>
    rw [hx] at hf
    refine ⟨.map (es.push ⟨mkR k, v, clock⟩) (clock + 1), ?_, _, _, mput_same _ _ _ hlt, by rw [fidx_none L k v 0 hx]; exact hE.push k v clock, hN.push _ _⟩
    simp [Instr.mapUpdate, run_underlying Tryd.underlying168, MapKept.run_getObj_map hm, hc, hf, MapKept.run_setObj_map _ hm, Result.andThen, mput]
  | some x =>
    obtain ⟨i, u⟩ := x
    rw [hx] at hf
    obtain ⟨q, h1, h2, h3, h4⟩ := fidx_some L k v 0 i u hx
    obtain rfl : i = q := by omega
    have hsz := hE.size
    have hkey : ((es[i]?).map (·.key)).getD (mkR k) = mkR k := by
      have hE' := hE
      unfold EL at hE'
      have hj := congrArg (fun l => l[i]?) hE'
      simp only [List.getElem?_map, Array.getElem?_toList] at hj
      cases a1 : es[i]? with
      | none => rfl
      | some e1 =>
        cases a2 : L[i]? with
        | none => rw [a2] at h3; cases h3
        | some p1 =>
          rw [a1, a2] at hj
          rw [a2] at h3
          simp only [Option.map_some, Option.some.injEq, Prod.mk.injEq] at hj h3
          simp only [Option.map_some, Option.getD_some]
          rw [hj.1, h3]
    have hst : (Instr.keyThatStays (mkR k) (mkR k)).run Tryd.prog w = .ok (mkR k) w := by
      unfold Instr.keyThatStays
      rw [if_pos (by simp [Instr.sameBits])]
      simp [Sem.run_pure]
    refine ⟨.map (es.modify i fun e => { e with key := mkR k, val := v }) clock, ?_, _, _, mput_same _ _ _ hlt, by rw [h4]; exact hE.modify i k v, hN.modify i _ _⟩
    simp [Instr.mapUpdate, run_underlying Tryd.underlying168, MapKept.run_getObj_map hm, hc, hf, MapKept.run_setObj_map _ hm, Result.andThen, mput, hkey, hst]

end IM
end Go.Proofs.YtoblkmnhoiodcaaDoor
