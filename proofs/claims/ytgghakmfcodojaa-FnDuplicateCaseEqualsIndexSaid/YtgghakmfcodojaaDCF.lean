/- Proved here: the leaf table is symmetric; comparison of index nodes from comparisons of their parts; a leaf wrapped or not. No condition beyond the stated. -/
import Derived.Test.YtgghakmfcodojaaDCE
import Derived.WalkKit
import Derived.WalkSpells
import Derived.WalkLawsBesides
import Derived.Lib.Hide
import Derived.Lib.SliceRun
import Derived.Deep.RegionWith
namespace Go.Proofs.Ytgghakmfcodojaa
open Go.RowKit
set_option linter.unusedSimpArgs false
set_option linter.unusedVariables false

theorem cmp_int (a b : Int) : (compare a b == Ordering.eq) = (compare b a == Ordering.eq) := by
  rw [Bool.eq_iff_iff, beq_iff_eq, beq_iff_eq, Int.compare_eq_eq, Int.compare_eq_eq]
  exact eq_comm
theorem cmp_nat (a b : Nat) : (compare a b == Ordering.eq) = (compare b a == Ordering.eq) := by
  rw [Bool.eq_iff_iff, beq_iff_eq, beq_iff_eq, Nat.compare_eq_eq, Nat.compare_eq_eq]
  exact eq_comm
theorem some_eq (o : Ordering) : ((some o : Option Ordering) == some .eq) = (o == .eq) := by cases o <;> rfl
theorem dord (d e : Ieee.Datum) : (d.order e == some .eq) = (e.order d == some .eq) := by
  cases d with
  | nan s t => cases e <;> rfl
  | infinity s =>
    cases e with
    | nan _ _ => rfl
    | infinity t => simp only [Ieee.Datum.order, some_eq]; exact cmp_nat _ _
    | number t n j => cases s <;> rfl
  | number s m i =>
    cases e with
    | nan _ _ => rfl
    | infinity t => cases t <;> rfl
    | number t n j =>
      simp only [Ieee.Datum.order, some_eq]
      rw [Int.min_comm j i]
      exact cmp_int _ _
theorem feq_comm (x y : Nat) : (FloatKind.f64.format.order x y == some .eq) = (FloatKind.f64.format.order y x == some .eq) := dord _ _
theorem leq_comm (k x : Nat) (b : Bool) (n : Nat) (zs : List Int) (r : Int) (k' x' : Nat) (b' : Bool) (n' : Nat) (zs' : List Int) (r' : Int) : leq k x b n zs r k' x' b' n' zs' r' = leq k' x' b' n' zs' r' k x b n zs r := by
  unfold leq
  by_cases e : k = k'
  · subst e
    rw [if_pos rfl, if_pos rfl]
    split
    · exact Bool.beq_comm
    · split
      · exact feq_comm _ _
      · split
        · exact ueq_comm _ _ _ _
        · split
          · exact BEq.comm
          · rfl
  · rw [if_neg e, if_neg (fun h => e h.symm)]
theorem wrap_any (t p : Nat) (wr : Bool) (k x : Nat) (b : Bool) (a : Option Addr) (n c : Nat) (r : Int) (w : World) (ht : t = lty k) (h : LAt w p k x b a n c r) :
    Calls Try.prog 15 #[.agg #[.iface t (.pointer (some ⟨p, 0, none⟩)), .int .i32 0], .bool wr] w (WrP wr k x b a n c r w) := by
  cases wr
  · exact wrapF t p k x b a n c r w ht h
  · exact wrapT t p k x b a n c r w ht h
theorem idx_any (p q t x u y t' x' u' y' : Nat) (l k l' k' : Int) (bi bt : Bool) (w : World) (h : IdxAt w p t x l u y k) (g : IdxAt w q t' x' l' u' y' k')
    (C : ∀ W, Below w.heap.size w W → Calls Try.prog 30 #[.agg #[.iface u (.pointer (some ⟨y, 0, none⟩)), .int .i32 k], .agg #[.iface u' (.pointer (some ⟨y', 0, none⟩)), .int .i32 k']] W (DP bi false W))
    (D : ∀ W, Below w.heap.size w W → Calls Try.prog 30 #[.agg #[.iface t (.pointer (some ⟨x, 0, none⟩)), .int .i32 l], .agg #[.iface t' (.pointer (some ⟨x', 0, none⟩)), .int .i32 l']] W (DP bt false W)) :
    Calls Try.prog 30 #[.agg #[.iface 60 (.pointer (some ⟨p, 0, none⟩)), .int .i32 0], .agg #[.iface 60 (.pointer (some ⟨q, 0, none⟩)), .int .i32 0]] w (DP (bi && bt) bi w) := by
  cases bi
  · exact idxF p q t x u y t' x' u' y' 0 0 l k l' k' false w h.1 h.2.1 h.2.2.1 h.2.2.2.1 h.2.2.2.2 g.1 g.2.1 g.2.2.1 g.2.2.2.1 g.2.2.2.2 C
  · exact idxT p q t x u y t' x' u' y' 0 0 l k l' k' false bt false w h.1 h.2.1 h.2.2.1 h.2.2.2.1 h.2.2.2.2 g.1 g.2.1 g.2.2.1 g.2.2.2.1 g.2.2.2.2 C D
end Go.Proofs.Ytgghakmfcodojaa
