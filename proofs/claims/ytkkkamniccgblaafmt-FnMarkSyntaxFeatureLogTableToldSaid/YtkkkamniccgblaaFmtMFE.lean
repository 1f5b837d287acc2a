/- Proved here: the source's tracker: its state, its frame. -/
import Derived.Test.YtkkkamniccgblaaFmtMFC
import Derived.Test.YtkkkamniccgblaaFmtMFD
import Derived.WalkKit
import Derived.WalkSpells
import Derived.WalkLawsBesides
import Derived.Lib.Hide
import Derived.Lib.SliceRun
import Derived.Deep.RegionWith
import Derived.BigRegion
import Derived.OwnWalk
import Derived.Laws.OwnMore
import Derived.Deep.Cut
import Derived.Carry
namespace Go.Proofs.YtkkkamniccgblaaFmt
open Go.RowKit
set_option linter.unusedSimpArgs false
set_option linter.unusedVariables false

namespace MF
/-- The tracker in the parser's block (cells 67 to 76). -/
structure TK (w : World) (p : Nat) (s a b : ByteArray) (off line ls le : Int) (hs he : Bool) : Prop where
  c0 : w.cell? ⟨p, 67, none⟩ = some (.string s)
  c1 : w.cell? ⟨p, 68, none⟩ = some (.string a)
  c2 : w.cell? ⟨p, 69, none⟩ = some (.string b)
  of : w.cell? ⟨p, 70, none⟩ = some (il off)
  li : w.cell? ⟨p, 71, none⟩ = some (il line)
  ls : w.cell? ⟨p, 72, none⟩ = some (il ls)
  le : w.cell? ⟨p, 73, none⟩ = some (il le)
  hs : w.cell? ⟨p, 74, none⟩ = some (.bool hs)
  he : w.cell? ⟨p, 75, none⟩ = some (.bool he)
  so : w.cell? ⟨p, 76, none⟩ = some (.bool true)
  fr : ∀ i, w.frozen? ⟨p, i, none⟩ = false
structure KT (p : Nat) (w w' : World) : Prop where
  k : KX [p] w w'
  c : ∀ i, i < 67 ∨ 76 < i → w'.cell? ⟨p, i, none⟩ = w.cell? ⟨p, i, none⟩
  f : ∀ i, w'.frozen? ⟨p, i, none⟩ = w.frozen? ⟨p, i, none⟩
  b : ∀ B, B ≤ p → B ≤ w.heap.size → Below B w w'
theorem KT.refl (p : Nat) (w : World) : KT p w w := ⟨KX.refl _ _, fun _ _ => rfl, fun _ => rfl, fun _ _ _ => Below.refl _ _⟩
theorem KT.set {p : Nat} {w w' : World} (h : KT p w w') (i : Nat) (hi : 67 ≤ i ∧ i ≤ 76) (v : Value) : KT p w (w'.setCell ⟨p, i, none⟩ v) :=
  ⟨KX.set h.k (by simp) _ _, fun j hj => (World.cell?_setCell_other _ _ _ _ (fun e => by have : i = j := congrArg Addr.off e; omega)).trans (h.c j hj), fun j => by simp [h.f j], fun B x1 x2 => (h.b B x1 x2).setCell x1 _⟩
theorem KT.below {p : Nat} {w w' w'' : World} (h : KT p w w') (hp : p < w.heap.size) (hb : Below w'.heap.size w' w'') : KT p w w'' := by
  have hs := h.k.1
  exact ⟨h.k.trans (KX.ofBelow hb), fun j hj => (hb.cell (show p < _ by omega)).trans (h.c j hj), fun j => (hb.frozen (show p < _ by omega)).trans (h.f j), fun B x1 x2 => (h.b B x1 x2).trans (hb.mono (by omega))⟩
theorem KT.trans {p : Nat} {w w' w'' : World} (h : KT p w w') (h2 : KT p w' w'') : KT p w w'' := by
  have hs := h.k.1
  exact ⟨h.k.trans h2.k, fun j hj => (h2.c j hj).trans (h.c j hj), fun j => (h2.f j).trans (h.f j), fun B x1 x2 => (h.b B x1 x2).trans (h2.b B x1 (by omega))⟩
theorem KT.drew {p : Nat} {w w' : World} (h : KT p w w') : KT p w w'.drew := ⟨h.k, h.c, h.f, fun B x1 x2 => (h.b B x1 x2).drew⟩
theorem KT.drewN {p : Nat} {w w' : World} (h : KT p w w') (n : Nat) : KT p w (w'.drewN n) := ⟨h.k, h.c, h.f, fun B x1 x2 => below_drewN (h.b B x1 x2) n⟩
theorem KT.alloc {p : Nat} {w w' : World} (h : KT p w w') (hp : p < w.heap.size) (o : Obj) : KT p w (w'.alloc o) := h.below hp ((Below.refl _ _).alloc (Nat.le_refl _) _)
section
variable {w : World} {p : Nat} {s a b : ByteArray} {off line ls le : Int} {hs he : Bool} (h : TK w p s a b off line ls le hs he)
include h
theorem TK.below {w' : World} (hb : Below w.heap.size w w') : TK w' p s a b off line ls le hs he := by
  have lp : p < w.heap.size := World.block_lt_of_cell? _ _ h.c0
  exact ⟨(hb.cell lp).trans h.c0, (hb.cell lp).trans h.c1, (hb.cell lp).trans h.c2, (hb.cell lp).trans h.of, (hb.cell lp).trans h.li, (hb.cell lp).trans h.ls, (hb.cell lp).trans h.le, (hb.cell lp).trans h.hs, (hb.cell lp).trans h.he, (hb.cell lp).trans h.so, fun i => (hb.frozen lp).trans (h.fr i)⟩
theorem TK.set_of (v : Int) : TK (w.setCell ⟨p, 70, none⟩ (il v)) p s a b v line ls le hs he :=
  ⟨(World.cell?_setCell_other _ _ _ _ (by simp)).trans h.c0, (World.cell?_setCell_other _ _ _ _ (by simp)).trans h.c1, (World.cell?_setCell_other _ _ _ _ (by simp)).trans h.c2, World.cell?_setCell_same w _ (il v) h.of, (World.cell?_setCell_other _ _ _ _ (by simp)).trans h.li, (World.cell?_setCell_other _ _ _ _ (by simp)).trans h.ls, (World.cell?_setCell_other _ _ _ _ (by simp)).trans h.le, (World.cell?_setCell_other _ _ _ _ (by simp)).trans h.hs, (World.cell?_setCell_other _ _ _ _ (by simp)).trans h.he, (World.cell?_setCell_other _ _ _ _ (by simp)).trans h.so, fun i => by simp [h.fr i]⟩
theorem TK.set_li (v : Int) : TK (w.setCell ⟨p, 71, none⟩ (il v)) p s a b off v ls le hs he :=
  ⟨(World.cell?_setCell_other _ _ _ _ (by simp)).trans h.c0, (World.cell?_setCell_other _ _ _ _ (by simp)).trans h.c1, (World.cell?_setCell_other _ _ _ _ (by simp)).trans h.c2, (World.cell?_setCell_other _ _ _ _ (by simp)).trans h.of, World.cell?_setCell_same w _ (il v) h.li, (World.cell?_setCell_other _ _ _ _ (by simp)).trans h.ls, (World.cell?_setCell_other _ _ _ _ (by simp)).trans h.le, (World.cell?_setCell_other _ _ _ _ (by simp)).trans h.hs, (World.cell?_setCell_other _ _ _ _ (by simp)).trans h.he, (World.cell?_setCell_other _ _ _ _ (by simp)).trans h.so, fun i => by simp [h.fr i]⟩
theorem TK.set_ls (v : Int) : TK (w.setCell ⟨p, 72, none⟩ (il v)) p s a b off line v le hs he :=
  ⟨(World.cell?_setCell_other _ _ _ _ (by simp)).trans h.c0, (World.cell?_setCell_other _ _ _ _ (by simp)).trans h.c1, (World.cell?_setCell_other _ _ _ _ (by simp)).trans h.c2, (World.cell?_setCell_other _ _ _ _ (by simp)).trans h.of, (World.cell?_setCell_other _ _ _ _ (by simp)).trans h.li, World.cell?_setCell_same w _ (il v) h.ls, (World.cell?_setCell_other _ _ _ _ (by simp)).trans h.le, (World.cell?_setCell_other _ _ _ _ (by simp)).trans h.hs, (World.cell?_setCell_other _ _ _ _ (by simp)).trans h.he, (World.cell?_setCell_other _ _ _ _ (by simp)).trans h.so, fun i => by simp [h.fr i]⟩
theorem TK.set_le (v : Int) : TK (w.setCell ⟨p, 73, none⟩ (il v)) p s a b off line ls v hs he :=
  ⟨(World.cell?_setCell_other _ _ _ _ (by simp)).trans h.c0, (World.cell?_setCell_other _ _ _ _ (by simp)).trans h.c1, (World.cell?_setCell_other _ _ _ _ (by simp)).trans h.c2, (World.cell?_setCell_other _ _ _ _ (by simp)).trans h.of, (World.cell?_setCell_other _ _ _ _ (by simp)).trans h.li, (World.cell?_setCell_other _ _ _ _ (by simp)).trans h.ls, World.cell?_setCell_same w _ (il v) h.le, (World.cell?_setCell_other _ _ _ _ (by simp)).trans h.hs, (World.cell?_setCell_other _ _ _ _ (by simp)).trans h.he, (World.cell?_setCell_other _ _ _ _ (by simp)).trans h.so, fun i => by simp [h.fr i]⟩
theorem TK.set_hs (v : Bool) : TK (w.setCell ⟨p, 74, none⟩ (.bool v)) p s a b off line ls le v he :=
  ⟨(World.cell?_setCell_other _ _ _ _ (by simp)).trans h.c0, (World.cell?_setCell_other _ _ _ _ (by simp)).trans h.c1, (World.cell?_setCell_other _ _ _ _ (by simp)).trans h.c2, (World.cell?_setCell_other _ _ _ _ (by simp)).trans h.of, (World.cell?_setCell_other _ _ _ _ (by simp)).trans h.li, (World.cell?_setCell_other _ _ _ _ (by simp)).trans h.ls, (World.cell?_setCell_other _ _ _ _ (by simp)).trans h.le, World.cell?_setCell_same w _ (.bool v) h.hs, (World.cell?_setCell_other _ _ _ _ (by simp)).trans h.he, (World.cell?_setCell_other _ _ _ _ (by simp)).trans h.so, fun i => by simp [h.fr i]⟩
theorem TK.set_he (v : Bool) : TK (w.setCell ⟨p, 75, none⟩ (.bool v)) p s a b off line ls le hs v :=
  ⟨(World.cell?_setCell_other _ _ _ _ (by simp)).trans h.c0, (World.cell?_setCell_other _ _ _ _ (by simp)).trans h.c1, (World.cell?_setCell_other _ _ _ _ (by simp)).trans h.c2, (World.cell?_setCell_other _ _ _ _ (by simp)).trans h.of, (World.cell?_setCell_other _ _ _ _ (by simp)).trans h.li, (World.cell?_setCell_other _ _ _ _ (by simp)).trans h.ls, (World.cell?_setCell_other _ _ _ _ (by simp)).trans h.le, (World.cell?_setCell_other _ _ _ _ (by simp)).trans h.hs, World.cell?_setCell_same w _ (.bool v) h.he, (World.cell?_setCell_other _ _ _ _ (by simp)).trans h.so, fun i => by simp [h.fr i]⟩
end
theorem tabsX {w w' : World} {a b : Nat} {X : List Nat} (ha : a ∉ X) (hb : b ∉ X) (h : Lib.Utf8Tabs a b w) (hk : KX X w w') : Lib.Utf8Tabs a b w' := by
  have kc : ∀ g i v, g ∉ X → w.cell? ⟨g, i, none⟩ = some v → w'.cell? ⟨g, i, none⟩ = some v := fun g i v hg hv =>
    (World.cell?_of_block (hk.2 g (World.block_lt_of_cell? _ _ hv) hg)).trans hv
  exact ⟨fun c hc => kc _ _ _ ha (h.1 c hc), fun i hi => ⟨kc _ _ _ hb (h.2 i hi).1, kc _ _ _ hb (h.2 i hi).2⟩⟩
end MF
end Go.Proofs.YtkkkamniccgblaaFmt
