/- Proved here: an append's run under a name of its own, so that a fact on it, laid ahead of a walk, serves inside a region that draws its order. No condition. -/
import Derived.Test.YtkkkamniccgblaaFmtBase
import Derived.Below
import Derived.OwnWalk
import Derived.Laws.OwnMore
import Derived.Deep.AppendLies
import Derived.BigRegion
namespace Go.Proofs.YtkkkamniccgblaaFmt
open Go.RowKit
/-- What the append of the operands args gives in W. -/
def appRun (P : Program) (ats : Array TypeId) (ty : TypeId) (args : Array Value) (W : World) : Result Value := (Builtin.append_ ats ty args).run P W
@[go_sem ↓] theorem run_execOp_append (P : Program) (ρ : Operand → Value) (dst : Option Tmp) (xs : Array Operand) (ats : Array TypeId) (ty : TypeId) (pos : String) (after : Array Edge) (guard : Option (Nat × Bool)) (W : World) :
    Sem.run P (execOp ρ { dst, op := .call { callee := .builtin .append, args := xs, argTypes := ats }, type := ty, pos, after, guard }) W = (appRun P ats ty (xs.map ρ) W).andThen fun v w' => .ok (.value v) w' := by
  rw [BigFrame.execOp_builtin, BigFrame.builtin_append]
  simp only [Sem.run_bind, Sem.run_pure, appRun]
theorem appRun_lies {P : Program} (w : World) (t ty : TypeId) (base : Nat) (e : TypeId) (i : TypeInfo) (z : Value) (size bytes : Nat) (ht : P.underlying t = some (.slice e)) (hi : P.info? e = some i) (hz : i.zero = some z)
    (hsize : i.size = size) (hby : i.bytes = bytes) (hzs : z.cells.size = size) (hsz : 0 < size)
    (v : Value) (n : Nat) (xs : List Value) (hown : w.ownsRow base e size v n xs)
    (ad : Addr) (m c : Nat) (news : List Value) (hl : news.length = m * size) (hnews : ∀ j u, news[j]? = some u → w.cell? (ad.add j) = some u) (h1 : ∀ u ∈ news, u.oneCell' = true)
    (hm : 0 < m) (h63 : n + m ≤ maxLen) (hbytes : (n + m) * bytes ≤ 140737488355328) (hbase : base ≤ w.heap.size) (H : Nat) (hH : w.heap.size = H) :
    ∃ g cap w', appRun P #[t, t] ty #[v, .slice (some ad) m c] w = .ok (.slice (some ⟨g, 0, none⟩) (n + m) cap) w' ∧
      w'.ownsRow base e size (.slice (some ⟨g, 0, none⟩) (n + m) cap) (n + m) (xs ++ news) ∧ w.grownBy w' v.ownBlock ∧ (v.ownBlock = some g ∨ g = H) ∧ g < w'.heap.size :=
  run_append_lies (P := P) w t ty base e i z size bytes ht hi hz hsize hby hzs hsz v n xs hown ad m c news hl hnews h1 hm h63 hbytes hbase H hH
theorem ownFrozen {w : World} {B : Nat} {e : TypeId} {sz g n c m : Nat} {xs : List Value} (h : w.ownsRow B e sz (.slice (some ⟨g, 0, none⟩) n c) m xs) (i : Nat) : w.frozen? ⟨g, i, none⟩ = false := by
  obtain ⟨_, ⟨e, _⟩ | ⟨g', cap, cur, e, _, hg, _⟩⟩ := h
  · cases e
  · simp only [Value.slice.injEq, Option.some.injEq, Addr.mk.injEq] at e
    obtain ⟨⟨rfl, _⟩, _⟩ := e
    simp [World.frozen?, hg]
/-- One element appended to nil: a new row. -/
theorem appRun_nil {P : Program} (w : World) (t e : TypeId) (z : Value) (size bytes : Nat) (ht : P.underlying t = some (.slice e)) (hi : (P.info? e).map (fun i => (i.zero, i.size, i.bytes)) = some (some z, size, bytes))
    (hzs : z.cells.size = size) (hsz : 0 < size) (hb : bytes ≤ 140737488355328)
    (ad : Addr) (c : Nat) (news : List Value) (hl : news.length = size) (hnews : ∀ j u, news[j]? = some u → w.cell? (ad.add j) = some u) (h1 : ∀ u ∈ news, u.oneCell' = true) (H : Nat) (hH : w.heap.size = H) :
    ∃ cap w', appRun P #[t, t] t #[.slice none 0 0, .slice (some ad) 1 c] w = .ok (.slice (some ⟨H, 0, none⟩) 1 cap) w' ∧ H < w'.heap.size ∧ (∀ k, k < H → w'.heap[k]? = w.heap[k]?) ∧ (∀ i, i < size → w'.cell? ⟨H, i, none⟩ = news[i]?) ∧ (∀ i, w'.frozen? ⟨H, i, none⟩ = false) ∧ Below H w w' := by
  obtain ⟨i, hi0, hz0, hz1, hz2⟩ := info_parts hi
  obtain ⟨g, cap, w', hr, hown, hgrow, hat, hlt⟩ := appRun_lies w t t H e i z size bytes ht hi0 hz0 hz1 hz2 hzs hsz (.slice none 0 0) 0 [] ⟨by simp, .inl ⟨rfl, rfl⟩⟩ ad 1 c news (by simpa using hl) hnews h1 (by omega) (by unfold maxLen; omega) (by simpa using hb) (by omega) H hH
  have hg : g = H := by
    rcases hat with h | h
    · simp [Value.ownBlock] at h
    · exact h
  subst hg
  refine ⟨cap, w', by simpa using hr, hlt, fun k hk => hgrow.block k (by omega) (by simp [Value.ownBlock]), fun i hi => ?_, fun i => ownFrozen hown i, Below.grown (Below.refl _ _) hgrow (by omega) (fun k hk => by simp [Value.ownBlock] at hk)⟩
  have := World.ownsRow.cellAt hown i (by simp; omega)
  simpa using this
end Go.Proofs.YtkkkamniccgblaaFmt
