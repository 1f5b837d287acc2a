/- Proved here: the contract of remapExprLocsInJSON on the whole tree. Conditions as stated. -/
import Derived.Test.YtjlmaingeobgeaaDoorRJD
import Derived.Test.YtjlmaingeobgeaaDoorRJF
import Derived.WalkKit
import Derived.WalkSpells
import Derived.WalkLawsBesides
import Derived.Lib.Hide
import Derived.Lib.SliceRun
import Derived.Deep.RegionWith
import Derived.OwnWalk
import Derived.Laws.OwnMore
import Derived.BigRegion
import Derived.Carry
namespace Go.Proofs.YtjlmaingeobgeaaDoor
open Go.RowKit
set_option linter.unusedSimpArgs false
set_option linter.unusedVariables false

def upd (L : Nat → Int) (m : Nat) (v : Int) (i : Nat) : Int := if i = m then v else L i
theorem upd_eq (L : Nat → Int) (m : Nat) (v : Int) : upd L m v m = v := if_pos rfl
theorem upd_ne (L : Nat → Int) (m : Nat) (v : Int) {i : Nat} (h : i ≠ m) : upd L m v i = L i := if_neg h
def shM (p : Int) (m : Nat) (L : Nat → Int) (i : Nat) : Int := if i < m then sh p (L i) else L i
theorem shM_at (p : Int) (m : Nat) (L : Nat → Int) {i : Nat} (h : m ≤ i) : shM p m L i = L i := if_neg (by omega)
theorem shM_succ (p : Int) (m : Nat) (L : Nat → Int) : upd (shM p m L) m (sh p (L m)) = shM p (m + 1) L := by
  funext i
  unfold upd shM
  by_cases h : i = m
  · subst h; rw [if_pos rfl, if_pos (by omega)]
  · rw [if_neg h]
    by_cases h2 : i < m
    · rw [if_pos h2, if_pos (by omega)]
    · rw [if_neg h2, if_neg (by omega)]
theorem gsn (cs : Array Value) {c k : Nat} (x : Value) (h : k ≠ c) : (cs.setIfInBounds c x)[k]? = cs[k]? := Array.getElem?_setIfInBounds_ne (fun e => h e.symm)
theorem gse {cs : Array Value} {c : Nat} {y : Value} (x : Value) (h : cs[c]? = some y) : (cs.setIfInBounds c x)[c]? = some x := by
  have hc : c < cs.size := (Array.getElem?_eq_some_iff.1 h).1
  rw [Array.getElem?_setIfInBounds_self, if_pos hc]
theorem TR.congr {w : World} {D ra N : Nat} {L : Nat → Int} {ib cap eo pb ea ib2 ed es n5 n6 n11 : Nat} (h : TR w D ra N L ib cap eo pb ea ib2 ed es n5 n6 n11) {L' : Nat → Int} (hc : ∀ i, 1 ≤ i → L i = L' i) : TR w D ra N L' ib cap eo pb ea ib2 ed es n5 n6 n11 := by
  obtain ⟨lo, ne, root, ⟨cs, r1, r2, ra1, rb, rc, rd⟩, capN, obj, prop, str, arr, row2, ⟨csd, d1, d2, d3, d4⟩, f5, f6, f11⟩ := h
  refine ⟨lo, ne, ?_, ⟨cs, r1, fun j hj => ?_, ra1, ?_, rc, ?_⟩, capN, ?_, ?_, str, ?_, ?_, ⟨csd, d1, d2, ?_, ?_⟩, f5, f6, f11⟩
  · rw [← hc _ (by omega)]; exact root
  · rw [← hc _ (by omega)]; exact r2 j hj
  · rw [← hc _ (by omega)]; exact rb
  · rw [← hc _ (by omega)]; exact rd
  · rw [← hc _ (by omega)]; exact obj
  · rw [← hc _ (by omega), ← hc _ (by omega)]; exact prop
  · rw [← hc _ (by omega)]; exact arr
  · rw [← hc _ (by omega), ← hc _ (by omega)]; exact row2
  · rw [← hc _ (by omega)]; exact d3
  · rw [← hc _ (by omega)]; exact d4
theorem TR.u1 {w : World} {D ra N : Nat} {L : Nat → Int} {ib cap eo pb ea ib2 ed es n5 n6 n11 : Nat} (h : TR w D ra N L ib cap eo pb ea ib2 ed es n5 n6 n11) (v : Int) : TR (w.setCell ⟨ra, 2, none⟩ (il v)) D ra N (upd L (1) v) ib cap eo pb ea ib2 ed es n5 n6 n11 := by
  obtain ⟨lo, ne, root, ⟨cs, r1, r2, ra1, rb, rc, rd⟩, capN, obj, prop, ⟨cse, str⟩, arr, row2, ⟨csd, d1, d2, d3, d4⟩, f5, f6, f11⟩ := h
  have num : ∀ {g : Nat} {cs : Array Value}, At w g 214 cs → At (w.setCell ⟨ra, 2, none⟩ (il v)) g 214 cs := fun h1 => h1.far (atNe h1 root (by decide)) (il v)
  refine ⟨lo, ne, ?_, ⟨cs, r1.far (atNe r1 root (by decide)) (il v), fun j hj => ?_, ra1, ?_, rc, ?_⟩, capN, ?_, ?_, ⟨cse, str.1.far (atNe str.1 root (by decide)) (il v), str.2⟩, ?_, ?_, ⟨csd, d1.far (atNe d1 root (by decide)) (il v), d2, ?_, ?_⟩, num f5, num f6, num f11⟩
  · rw [upd_eq]; exact root.set 2 (il v)
  · obtain ⟨p, h1, h2, h3⟩ := r2 j hj
    exact ⟨p, h1, by rw [upd_ne _ _ _ (by omega)]; exact h2, num h3⟩
  · rw [upd_ne _ _ _ (by omega)]; exact rb
  · rw [upd_ne _ _ _ (by omega)]; exact rd
  · rw [upd_ne _ _ _ (by omega)]; exact obj.far (atNe obj root (by decide)) (il v)
  · rw [upd_ne _ _ _ (by omega)]; rw [upd_ne _ _ _ (by omega)]; exact prop.far (atNe prop root (by decide)) (il v)
  · rw [upd_ne _ _ _ (by omega)]; exact arr.far (fun e => ne.1 e.symm) (il v)
  · rw [upd_ne _ _ _ (by omega)]; rw [upd_ne _ _ _ (by omega)]; exact row2.far (atNe row2 root (by decide)) (il v)
  · rw [upd_ne _ _ _ (by omega)]; exact d3
  · rw [upd_ne _ _ _ (by omega)]; exact d4
theorem TR.ui {w : World} {D ra N : Nat} {L : Nat → Int} {ib cap eo pb ea ib2 ed es n5 n6 n11 : Nat} (h : TR w D ra N L ib cap eo pb ea ib2 ed es n5 n6 n11) {i : Nat} (hi : i < N) (v : Int) : TR (w.setCell ⟨ib, i * 2 + 1, none⟩ (il v)) D ra N (upd L (2 + i) v) ib cap eo pb ea ib2 ed es n5 n6 n11 := by
  obtain ⟨lo, ne, root, ⟨cs, r1, r2, ra1, rb, rc, rd⟩, capN, obj, prop, ⟨cse, str⟩, arr, row2, ⟨csd, d1, d2, d3, d4⟩, f5, f6, f11⟩ := h
  have num : ∀ {g : Nat} {cs : Array Value}, At w g 214 cs → At (w.setCell ⟨ib, i * 2 + 1, none⟩ (il v)) g 214 cs := fun h1 => h1.far (atNe h1 r1 (by decide)) (il v)
  refine ⟨lo, ne, ?_, ⟨cs.setIfInBounds (i * 2 + 1) (il v), r1.set _ _, fun j hj => ?_, ?_, ?_, ?_, ?_⟩, capN, ?_, ?_, ⟨cse, str.1.far (atNe str.1 r1 (by decide)) (il v), str.2⟩, ?_, ?_, ⟨csd, d1.far (atNe d1 r1 (by decide)) (il v), d2, ?_, ?_⟩, num f5, num f6, num f11⟩
  · rw [upd_ne _ _ _ (by omega)]; exact root.far (atNe root r1 (by decide)) (il v)
  · obtain ⟨p, h1, h2, h3⟩ := r2 j hj
    by_cases e : j = i
    · subst e; exact ⟨p, (gsn _ _ (by omega)).trans h1, by rw [upd_eq]; exact gse _ h2, num h3⟩
    · exact ⟨p, (gsn _ _ (by omega)).trans h1, by rw [upd_ne _ _ _ (by omega)]; exact (gsn _ _ (by omega)).trans h2, num h3⟩
  · exact (gsn _ _ (by omega)).trans ra1
  · rw [upd_ne _ _ _ (by omega)]; exact (gsn _ _ (by omega)).trans rb
  · exact (gsn _ _ (by omega)).trans rc
  · rw [upd_ne _ _ _ (by omega)]; exact (gsn _ _ (by omega)).trans rd
  · rw [upd_ne _ _ _ (by omega)]; exact obj.far (atNe obj r1 (by decide)) (il v)
  · rw [upd_ne _ _ _ (by omega)]; rw [upd_ne _ _ _ (by omega)]; exact prop.far (atNe prop r1 (by decide)) (il v)
  · rw [upd_ne _ _ _ (by omega)]; exact arr.far (atNe arr r1 (by decide)) (il v)
  · rw [upd_ne _ _ _ (by omega)]; rw [upd_ne _ _ _ (by omega)]; exact row2.far (fun e => ne.2 e.symm) (il v)
  · rw [upd_ne _ _ _ (by omega)]; exact d3
  · rw [upd_ne _ _ _ (by omega)]; exact d4
theorem TR.uo {w : World} {D ra N : Nat} {L : Nat → Int} {ib cap eo pb ea ib2 ed es n5 n6 n11 : Nat} (h : TR w D ra N L ib cap eo pb ea ib2 ed es n5 n6 n11) (v : Int) : TR (w.setCell ⟨ib, N * 2 + 1, none⟩ (il v)) D ra N (upd L (N + 2) v) ib cap eo pb ea ib2 ed es n5 n6 n11 := by
  obtain ⟨lo, ne, root, ⟨cs, r1, r2, ra1, rb, rc, rd⟩, capN, obj, prop, ⟨cse, str⟩, arr, row2, ⟨csd, d1, d2, d3, d4⟩, f5, f6, f11⟩ := h
  have num : ∀ {g : Nat} {cs : Array Value}, At w g 214 cs → At (w.setCell ⟨ib, N * 2 + 1, none⟩ (il v)) g 214 cs := fun h1 => h1.far (atNe h1 r1 (by decide)) (il v)
  refine ⟨lo, ne, ?_, ⟨cs.setIfInBounds (N * 2 + 1) (il v), r1.set _ _, fun j hj => ?_, ?_, ?_, ?_, ?_⟩, capN, ?_, ?_, ⟨cse, str.1.far (atNe str.1 r1 (by decide)) (il v), str.2⟩, ?_, ?_, ⟨csd, d1.far (atNe d1 r1 (by decide)) (il v), d2, ?_, ?_⟩, num f5, num f6, num f11⟩
  · rw [upd_ne _ _ _ (by omega)]; exact root.far (atNe root r1 (by decide)) (il v)
  · obtain ⟨p, h1, h2, h3⟩ := r2 j hj
    exact ⟨p, (gsn _ _ (by omega)).trans h1, by rw [upd_ne _ _ _ (by omega)]; exact (gsn _ _ (by omega)).trans h2, num h3⟩
  · exact (gsn _ _ (by omega)).trans ra1
  · rw [upd_eq]; exact gse _ rb
  · exact (gsn _ _ (by omega)).trans rc
  · rw [upd_ne _ _ _ (by omega)]; exact (gsn _ _ (by omega)).trans rd
  · rw [upd_ne _ _ _ (by omega)]; exact obj.far (atNe obj r1 (by decide)) (il v)
  · rw [upd_ne _ _ _ (by omega)]; rw [upd_ne _ _ _ (by omega)]; exact prop.far (atNe prop r1 (by decide)) (il v)
  · rw [upd_ne _ _ _ (by omega)]; exact arr.far (atNe arr r1 (by decide)) (il v)
  · rw [upd_ne _ _ _ (by omega)]; rw [upd_ne _ _ _ (by omega)]; exact row2.far (fun e => ne.2 e.symm) (il v)
  · rw [upd_ne _ _ _ (by omega)]; exact d3
  · rw [upd_ne _ _ _ (by omega)]; exact d4
theorem TR.uc {w : World} {D ra N : Nat} {L : Nat → Int} {ib cap eo pb ea ib2 ed es n5 n6 n11 : Nat} (h : TR w D ra N L ib cap eo pb ea ib2 ed es n5 n6 n11) (v : Int) : TR (w.setCell ⟨eo, 2, none⟩ (il v)) D ra N (upd L (N + 3) v) ib cap eo pb ea ib2 ed es n5 n6 n11 := by
  obtain ⟨lo, ne, root, ⟨cs, r1, r2, ra1, rb, rc, rd⟩, capN, obj, prop, ⟨cse, str⟩, arr, row2, ⟨csd, d1, d2, d3, d4⟩, f5, f6, f11⟩ := h
  have num : ∀ {g : Nat} {cs : Array Value}, At w g 214 cs → At (w.setCell ⟨eo, 2, none⟩ (il v)) g 214 cs := fun h1 => h1.far (atNe h1 obj (by decide)) (il v)
  refine ⟨lo, ne, ?_, ⟨cs, r1.far (atNe r1 obj (by decide)) (il v), fun j hj => ?_, ra1, ?_, rc, ?_⟩, capN, ?_, ?_, ⟨cse, str.1.far (atNe str.1 obj (by decide)) (il v), str.2⟩, ?_, ?_, ⟨csd, d1.far (atNe d1 obj (by decide)) (il v), d2, ?_, ?_⟩, num f5, num f6, num f11⟩
  · rw [upd_ne _ _ _ (by omega)]; exact root.far (atNe root obj (by decide)) (il v)
  · obtain ⟨p, h1, h2, h3⟩ := r2 j hj
    exact ⟨p, h1, by rw [upd_ne _ _ _ (by omega)]; exact h2, num h3⟩
  · rw [upd_ne _ _ _ (by omega)]; exact rb
  · rw [upd_ne _ _ _ (by omega)]; exact rd
  · rw [upd_eq]; exact obj.set 2 (il v)
  · rw [upd_ne _ _ _ (by omega)]; rw [upd_ne _ _ _ (by omega)]; exact prop.far (atNe prop obj (by decide)) (il v)
  · rw [upd_ne _ _ _ (by omega)]; exact arr.far (atNe arr obj (by decide)) (il v)
  · rw [upd_ne _ _ _ (by omega)]; rw [upd_ne _ _ _ (by omega)]; exact row2.far (atNe row2 obj (by decide)) (il v)
  · rw [upd_ne _ _ _ (by omega)]; exact d3
  · rw [upd_ne _ _ _ (by omega)]; exact d4
theorem TR.uk {w : World} {D ra N : Nat} {L : Nat → Int} {ib cap eo pb ea ib2 ed es n5 n6 n11 : Nat} (h : TR w D ra N L ib cap eo pb ea ib2 ed es n5 n6 n11) (v : Int) : TR (w.setCell ⟨pb, 2, none⟩ (il v)) D ra N (upd L (N + 4) v) ib cap eo pb ea ib2 ed es n5 n6 n11 := by
  obtain ⟨lo, ne, root, ⟨cs, r1, r2, ra1, rb, rc, rd⟩, capN, obj, prop, ⟨cse, str⟩, arr, row2, ⟨csd, d1, d2, d3, d4⟩, f5, f6, f11⟩ := h
  have num : ∀ {g : Nat} {cs : Array Value}, At w g 214 cs → At (w.setCell ⟨pb, 2, none⟩ (il v)) g 214 cs := fun h1 => h1.far (atNe h1 prop (by decide)) (il v)
  refine ⟨lo, ne, ?_, ⟨cs, r1.far (atNe r1 prop (by decide)) (il v), fun j hj => ?_, ra1, ?_, rc, ?_⟩, capN, ?_, ?_, ⟨cse, str.1.far (atNe str.1 prop (by decide)) (il v), str.2⟩, ?_, ?_, ⟨csd, d1.far (atNe d1 prop (by decide)) (il v), d2, ?_, ?_⟩, num f5, num f6, num f11⟩
  · rw [upd_ne _ _ _ (by omega)]; exact root.far (atNe root prop (by decide)) (il v)
  · obtain ⟨p, h1, h2, h3⟩ := r2 j hj
    exact ⟨p, h1, by rw [upd_ne _ _ _ (by omega)]; exact h2, num h3⟩
  · rw [upd_ne _ _ _ (by omega)]; exact rb
  · rw [upd_ne _ _ _ (by omega)]; exact rd
  · rw [upd_ne _ _ _ (by omega)]; exact obj.far (atNe obj prop (by decide)) (il v)
  · rw [upd_eq]; rw [upd_ne _ _ _ (by omega)]; exact prop.set 2 (il v)
  · rw [upd_ne _ _ _ (by omega)]; exact arr.far (atNe arr prop (by decide)) (il v)
  · rw [upd_ne _ _ _ (by omega)]; rw [upd_ne _ _ _ (by omega)]; exact row2.far (atNe row2 prop (by decide)) (il v)
  · rw [upd_ne _ _ _ (by omega)]; exact d3
  · rw [upd_ne _ _ _ (by omega)]; exact d4
theorem TR.uv {w : World} {D ra N : Nat} {L : Nat → Int} {ib cap eo pb ea ib2 ed es n5 n6 n11 : Nat} (h : TR w D ra N L ib cap eo pb ea ib2 ed es n5 n6 n11) (v : Int) : TR (w.setCell ⟨pb, 4, none⟩ (il v)) D ra N (upd L (N + 5) v) ib cap eo pb ea ib2 ed es n5 n6 n11 := by
  obtain ⟨lo, ne, root, ⟨cs, r1, r2, ra1, rb, rc, rd⟩, capN, obj, prop, ⟨cse, str⟩, arr, row2, ⟨csd, d1, d2, d3, d4⟩, f5, f6, f11⟩ := h
  have num : ∀ {g : Nat} {cs : Array Value}, At w g 214 cs → At (w.setCell ⟨pb, 4, none⟩ (il v)) g 214 cs := fun h1 => h1.far (atNe h1 prop (by decide)) (il v)
  refine ⟨lo, ne, ?_, ⟨cs, r1.far (atNe r1 prop (by decide)) (il v), fun j hj => ?_, ra1, ?_, rc, ?_⟩, capN, ?_, ?_, ⟨cse, str.1.far (atNe str.1 prop (by decide)) (il v), str.2⟩, ?_, ?_, ⟨csd, d1.far (atNe d1 prop (by decide)) (il v), d2, ?_, ?_⟩, num f5, num f6, num f11⟩
  · rw [upd_ne _ _ _ (by omega)]; exact root.far (atNe root prop (by decide)) (il v)
  · obtain ⟨p, h1, h2, h3⟩ := r2 j hj
    exact ⟨p, h1, by rw [upd_ne _ _ _ (by omega)]; exact h2, num h3⟩
  · rw [upd_ne _ _ _ (by omega)]; exact rb
  · rw [upd_ne _ _ _ (by omega)]; exact rd
  · rw [upd_ne _ _ _ (by omega)]; exact obj.far (atNe obj prop (by decide)) (il v)
  · rw [upd_ne _ _ _ (by omega)]; rw [upd_eq]; exact prop.set 4 (il v)
  · rw [upd_ne _ _ _ (by omega)]; exact arr.far (atNe arr prop (by decide)) (il v)
  · rw [upd_ne _ _ _ (by omega)]; rw [upd_ne _ _ _ (by omega)]; exact row2.far (atNe row2 prop (by decide)) (il v)
  · rw [upd_ne _ _ _ (by omega)]; exact d3
  · rw [upd_ne _ _ _ (by omega)]; exact d4
theorem TR.ua {w : World} {D ra N : Nat} {L : Nat → Int} {ib cap eo pb ea ib2 ed es n5 n6 n11 : Nat} (h : TR w D ra N L ib cap eo pb ea ib2 ed es n5 n6 n11) (v : Int) : TR (w.setCell ⟨ea, 2, none⟩ (il v)) D ra N (upd L (N + 6) v) ib cap eo pb ea ib2 ed es n5 n6 n11 := by
  obtain ⟨lo, ne, root, ⟨cs, r1, r2, ra1, rb, rc, rd⟩, capN, obj, prop, ⟨cse, str⟩, arr, row2, ⟨csd, d1, d2, d3, d4⟩, f5, f6, f11⟩ := h
  have num : ∀ {g : Nat} {cs : Array Value}, At w g 214 cs → At (w.setCell ⟨ea, 2, none⟩ (il v)) g 214 cs := fun h1 => h1.far (atNe h1 arr (by decide)) (il v)
  refine ⟨lo, ne, ?_, ⟨cs, r1.far (atNe r1 arr (by decide)) (il v), fun j hj => ?_, ra1, ?_, rc, ?_⟩, capN, ?_, ?_, ⟨cse, str.1.far (atNe str.1 arr (by decide)) (il v), str.2⟩, ?_, ?_, ⟨csd, d1.far (atNe d1 arr (by decide)) (il v), d2, ?_, ?_⟩, num f5, num f6, num f11⟩
  · rw [upd_ne _ _ _ (by omega)]; exact root.far ne.1 (il v)
  · obtain ⟨p, h1, h2, h3⟩ := r2 j hj
    exact ⟨p, h1, by rw [upd_ne _ _ _ (by omega)]; exact h2, num h3⟩
  · rw [upd_ne _ _ _ (by omega)]; exact rb
  · rw [upd_ne _ _ _ (by omega)]; exact rd
  · rw [upd_ne _ _ _ (by omega)]; exact obj.far (atNe obj arr (by decide)) (il v)
  · rw [upd_ne _ _ _ (by omega)]; rw [upd_ne _ _ _ (by omega)]; exact prop.far (atNe prop arr (by decide)) (il v)
  · rw [upd_eq]; exact arr.set 2 (il v)
  · rw [upd_ne _ _ _ (by omega)]; rw [upd_ne _ _ _ (by omega)]; exact row2.far (atNe row2 arr (by decide)) (il v)
  · rw [upd_ne _ _ _ (by omega)]; exact d3
  · rw [upd_ne _ _ _ (by omega)]; exact d4
theorem TR.ub {w : World} {D ra N : Nat} {L : Nat → Int} {ib cap eo pb ea ib2 ed es n5 n6 n11 : Nat} (h : TR w D ra N L ib cap eo pb ea ib2 ed es n5 n6 n11) (v : Int) : TR (w.setCell ⟨ib2, 1, none⟩ (il v)) D ra N (upd L (N + 7) v) ib cap eo pb ea ib2 ed es n5 n6 n11 := by
  obtain ⟨lo, ne, root, ⟨cs, r1, r2, ra1, rb, rc, rd⟩, capN, obj, prop, ⟨cse, str⟩, arr, row2, ⟨csd, d1, d2, d3, d4⟩, f5, f6, f11⟩ := h
  have num : ∀ {g : Nat} {cs : Array Value}, At w g 214 cs → At (w.setCell ⟨ib2, 1, none⟩ (il v)) g 214 cs := fun h1 => h1.far (atNe h1 row2 (by decide)) (il v)
  refine ⟨lo, ne, ?_, ⟨cs, r1.far ne.2 (il v), fun j hj => ?_, ra1, ?_, rc, ?_⟩, capN, ?_, ?_, ⟨cse, str.1.far (atNe str.1 row2 (by decide)) (il v), str.2⟩, ?_, ?_, ⟨csd, d1.far (atNe d1 row2 (by decide)) (il v), d2, ?_, ?_⟩, num f5, num f6, num f11⟩
  · rw [upd_ne _ _ _ (by omega)]; exact root.far (atNe root row2 (by decide)) (il v)
  · obtain ⟨p, h1, h2, h3⟩ := r2 j hj
    exact ⟨p, h1, by rw [upd_ne _ _ _ (by omega)]; exact h2, num h3⟩
  · rw [upd_ne _ _ _ (by omega)]; exact rb
  · rw [upd_ne _ _ _ (by omega)]; exact rd
  · rw [upd_ne _ _ _ (by omega)]; exact obj.far (atNe obj row2 (by decide)) (il v)
  · rw [upd_ne _ _ _ (by omega)]; rw [upd_ne _ _ _ (by omega)]; exact prop.far (atNe prop row2 (by decide)) (il v)
  · rw [upd_ne _ _ _ (by omega)]; exact arr.far (atNe arr row2 (by decide)) (il v)
  · rw [upd_eq]; rw [upd_ne _ _ _ (by omega)]; exact row2.set 1 (il v)
  · rw [upd_ne _ _ _ (by omega)]; exact d3
  · rw [upd_ne _ _ _ (by omega)]; exact d4
theorem TR.ue {w : World} {D ra N : Nat} {L : Nat → Int} {ib cap eo pb ea ib2 ed es n5 n6 n11 : Nat} (h : TR w D ra N L ib cap eo pb ea ib2 ed es n5 n6 n11) (v : Int) : TR (w.setCell ⟨ib2, 3, none⟩ (il v)) D ra N (upd L (N + 8) v) ib cap eo pb ea ib2 ed es n5 n6 n11 := by
  obtain ⟨lo, ne, root, ⟨cs, r1, r2, ra1, rb, rc, rd⟩, capN, obj, prop, ⟨cse, str⟩, arr, row2, ⟨csd, d1, d2, d3, d4⟩, f5, f6, f11⟩ := h
  have num : ∀ {g : Nat} {cs : Array Value}, At w g 214 cs → At (w.setCell ⟨ib2, 3, none⟩ (il v)) g 214 cs := fun h1 => h1.far (atNe h1 row2 (by decide)) (il v)
  refine ⟨lo, ne, ?_, ⟨cs, r1.far ne.2 (il v), fun j hj => ?_, ra1, ?_, rc, ?_⟩, capN, ?_, ?_, ⟨cse, str.1.far (atNe str.1 row2 (by decide)) (il v), str.2⟩, ?_, ?_, ⟨csd, d1.far (atNe d1 row2 (by decide)) (il v), d2, ?_, ?_⟩, num f5, num f6, num f11⟩
  · rw [upd_ne _ _ _ (by omega)]; exact root.far (atNe root row2 (by decide)) (il v)
  · obtain ⟨p, h1, h2, h3⟩ := r2 j hj
    exact ⟨p, h1, by rw [upd_ne _ _ _ (by omega)]; exact h2, num h3⟩
  · rw [upd_ne _ _ _ (by omega)]; exact rb
  · rw [upd_ne _ _ _ (by omega)]; exact rd
  · rw [upd_ne _ _ _ (by omega)]; exact obj.far (atNe obj row2 (by decide)) (il v)
  · rw [upd_ne _ _ _ (by omega)]; rw [upd_ne _ _ _ (by omega)]; exact prop.far (atNe prop row2 (by decide)) (il v)
  · rw [upd_ne _ _ _ (by omega)]; exact arr.far (atNe arr row2 (by decide)) (il v)
  · rw [upd_ne _ _ _ (by omega)]; rw [upd_eq]; exact row2.set 3 (il v)
  · rw [upd_ne _ _ _ (by omega)]; exact d3
  · rw [upd_ne _ _ _ (by omega)]; exact d4
theorem TR.ud {w : World} {D ra N : Nat} {L : Nat → Int} {ib cap eo pb ea ib2 ed es n5 n6 n11 : Nat} (h : TR w D ra N L ib cap eo pb ea ib2 ed es n5 n6 n11) (v : Int) : TR (w.setCell ⟨ib, (N + 1) * 2 + 1, none⟩ (il v)) D ra N (upd L (N + 9) v) ib cap eo pb ea ib2 ed es n5 n6 n11 := by
  obtain ⟨lo, ne, root, ⟨cs, r1, r2, ra1, rb, rc, rd⟩, capN, obj, prop, ⟨cse, str⟩, arr, row2, ⟨csd, d1, d2, d3, d4⟩, f5, f6, f11⟩ := h
  have num : ∀ {g : Nat} {cs : Array Value}, At w g 214 cs → At (w.setCell ⟨ib, (N + 1) * 2 + 1, none⟩ (il v)) g 214 cs := fun h1 => h1.far (atNe h1 r1 (by decide)) (il v)
  refine ⟨lo, ne, ?_, ⟨cs.setIfInBounds ((N + 1) * 2 + 1) (il v), r1.set _ _, fun j hj => ?_, ?_, ?_, ?_, ?_⟩, capN, ?_, ?_, ⟨cse, str.1.far (atNe str.1 r1 (by decide)) (il v), str.2⟩, ?_, ?_, ⟨csd, d1.far (atNe d1 r1 (by decide)) (il v), d2, ?_, ?_⟩, num f5, num f6, num f11⟩
  · rw [upd_ne _ _ _ (by omega)]; exact root.far (atNe root r1 (by decide)) (il v)
  · obtain ⟨p, h1, h2, h3⟩ := r2 j hj
    exact ⟨p, (gsn _ _ (by omega)).trans h1, by rw [upd_ne _ _ _ (by omega)]; exact (gsn _ _ (by omega)).trans h2, num h3⟩
  · exact (gsn _ _ (by omega)).trans ra1
  · rw [upd_ne _ _ _ (by omega)]; exact (gsn _ _ (by omega)).trans rb
  · exact (gsn _ _ (by omega)).trans rc
  · rw [upd_eq]; exact gse _ rd
  · rw [upd_ne _ _ _ (by omega)]; exact obj.far (atNe obj r1 (by decide)) (il v)
  · rw [upd_ne _ _ _ (by omega)]; rw [upd_ne _ _ _ (by omega)]; exact prop.far (atNe prop r1 (by decide)) (il v)
  · rw [upd_ne _ _ _ (by omega)]; exact arr.far (atNe arr r1 (by decide)) (il v)
  · rw [upd_ne _ _ _ (by omega)]; rw [upd_ne _ _ _ (by omega)]; exact row2.far (fun e => ne.2 e.symm) (il v)
  · rw [upd_ne _ _ _ (by omega)]; exact d3
  · rw [upd_ne _ _ _ (by omega)]; exact d4

/-- The state before the location of index m is remapped. -/
structure ST (w : World) (rt g : Nat) (p : Int) (W : World) (D ra N m : Nat) (L : Nat → Int) (ib cap eo pb ea ib2 ed es n5 n6 n11 : Nat) : Prop where
  tr : TR W D ra N (shM p m L) ib cap eo pb ea ib2 ed es n5 n6 n11
  vr : At W rt 35 #[ex 255 ra, il (sh p (L 0))]
  rne : D ≤ rt ∧ rt ≠ ib ∧ rt ≠ ib2
  tb : TB W g p
  fr : Below D w W
  ty : ∀ x cs, At w x 21 cs → At W x 21 cs
theorem ST.below {w W W' : World} {rt g D ra N m : Nat} {p : Int} {L : Nat → Int} {ib cap eo pb ea ib2 ed es n5 n6 n11 : Nat} (h : ST w rt g p W D ra N m L ib cap eo pb ea ib2 ed es n5 n6 n11) (hb : Below W.heap.size W W') : ST w rt g p W' D ra N m L ib cap eo pb ea ib2 ed es n5 n6 n11 :=
  ⟨h.tr.below hb, h.vr.below hb h.vr.lt, h.rne, h.tb.below hb, h.fr.trans (hb.mono (by have := h.vr.lt; have := h.rne.1; omega)), fun x cs hx => (h.ty x cs hx).below hb (h.ty x cs hx).lt⟩
theorem ST.s1 {w W : World} {rt g D ra N : Nat} {p : Int} {L : Nat → Int} {ib cap eo pb ea ib2 ed es n5 n6 n11 : Nat} (h : ST w rt g p W D ra N (1) L ib cap eo pb ea ib2 ed es n5 n6 n11) : ST w rt g p (W.setCell ⟨ra, 2, none⟩ (il (sh p (L (1))))) D ra N (1 + 1) L ib cap eo pb ea ib2 ed es n5 n6 n11 :=
  ⟨by rw [← shM_succ]; exact h.tr.u1 _, h.vr.far (atNe h.vr (h.tr.root) (by decide)) _, h.rne, h.tb.far (h.tr.root) (by decide) _, h.fr.setCell (h.tr.lo.1) _, fun x cs hx => (h.ty x cs hx).far (atNe (h.ty x cs hx) (h.tr.root) (by decide)) _⟩
theorem ST.si {w W : World} {rt g D ra N : Nat} {p : Int} {L : Nat → Int} {ib cap eo pb ea ib2 ed es n5 n6 n11 : Nat} {i : Nat} (hi : i < N) (h : ST w rt g p W D ra N (2 + i) L ib cap eo pb ea ib2 ed es n5 n6 n11) : ST w rt g p (W.setCell ⟨ib, i * 2 + 1, none⟩ (il (sh p (L (2 + i))))) D ra N (2 + i + 1) L ib cap eo pb ea ib2 ed es n5 n6 n11 :=
  ⟨by rw [← shM_succ]; exact h.tr.ui hi _, h.vr.far h.rne.2.1 _, h.rne, h.tb.far (h.tr.row.choose_spec.1) (by decide) _, h.fr.setCell (h.tr.lo.2.1) _, fun x cs hx => (h.ty x cs hx).far (atNe (h.ty x cs hx) (h.tr.row.choose_spec.1) (by decide)) _⟩
theorem ST.so {w W : World} {rt g D ra N : Nat} {p : Int} {L : Nat → Int} {ib cap eo pb ea ib2 ed es n5 n6 n11 : Nat} (h : ST w rt g p W D ra N (N + 2) L ib cap eo pb ea ib2 ed es n5 n6 n11) : ST w rt g p (W.setCell ⟨ib, N * 2 + 1, none⟩ (il (sh p (L (N + 2))))) D ra N (N + 2 + 1) L ib cap eo pb ea ib2 ed es n5 n6 n11 :=
  ⟨by rw [← shM_succ]; exact h.tr.uo _, h.vr.far h.rne.2.1 _, h.rne, h.tb.far (h.tr.row.choose_spec.1) (by decide) _, h.fr.setCell (h.tr.lo.2.1) _, fun x cs hx => (h.ty x cs hx).far (atNe (h.ty x cs hx) (h.tr.row.choose_spec.1) (by decide)) _⟩
theorem ST.sc {w W : World} {rt g D ra N : Nat} {p : Int} {L : Nat → Int} {ib cap eo pb ea ib2 ed es n5 n6 n11 : Nat} (h : ST w rt g p W D ra N (N + 3) L ib cap eo pb ea ib2 ed es n5 n6 n11) : ST w rt g p (W.setCell ⟨eo, 2, none⟩ (il (sh p (L (N + 3))))) D ra N (N + 3 + 1) L ib cap eo pb ea ib2 ed es n5 n6 n11 :=
  ⟨by rw [← shM_succ]; exact h.tr.uc _, h.vr.far (atNe h.vr (h.tr.obj) (by decide)) _, h.rne, h.tb.far (h.tr.obj) (by decide) _, h.fr.setCell (h.tr.lo.2.2.1) _, fun x cs hx => (h.ty x cs hx).far (atNe (h.ty x cs hx) (h.tr.obj) (by decide)) _⟩
theorem ST.sk {w W : World} {rt g D ra N : Nat} {p : Int} {L : Nat → Int} {ib cap eo pb ea ib2 ed es n5 n6 n11 : Nat} (h : ST w rt g p W D ra N (N + 4) L ib cap eo pb ea ib2 ed es n5 n6 n11) : ST w rt g p (W.setCell ⟨pb, 2, none⟩ (il (sh p (L (N + 4))))) D ra N (N + 4 + 1) L ib cap eo pb ea ib2 ed es n5 n6 n11 :=
  ⟨by rw [← shM_succ]; exact h.tr.uk _, h.vr.far (atNe h.vr (h.tr.prop) (by decide)) _, h.rne, h.tb.far (h.tr.prop) (by decide) _, h.fr.setCell (h.tr.lo.2.2.2.1) _, fun x cs hx => (h.ty x cs hx).far (atNe (h.ty x cs hx) (h.tr.prop) (by decide)) _⟩
theorem ST.sv {w W : World} {rt g D ra N : Nat} {p : Int} {L : Nat → Int} {ib cap eo pb ea ib2 ed es n5 n6 n11 : Nat} (h : ST w rt g p W D ra N (N + 5) L ib cap eo pb ea ib2 ed es n5 n6 n11) : ST w rt g p (W.setCell ⟨pb, 4, none⟩ (il (sh p (L (N + 5))))) D ra N (N + 5 + 1) L ib cap eo pb ea ib2 ed es n5 n6 n11 :=
  ⟨by rw [← shM_succ]; exact h.tr.uv _, h.vr.far (atNe h.vr (h.tr.prop) (by decide)) _, h.rne, h.tb.far (h.tr.prop) (by decide) _, h.fr.setCell (h.tr.lo.2.2.2.1) _, fun x cs hx => (h.ty x cs hx).far (atNe (h.ty x cs hx) (h.tr.prop) (by decide)) _⟩
theorem ST.sa {w W : World} {rt g D ra N : Nat} {p : Int} {L : Nat → Int} {ib cap eo pb ea ib2 ed es n5 n6 n11 : Nat} (h : ST w rt g p W D ra N (N + 6) L ib cap eo pb ea ib2 ed es n5 n6 n11) : ST w rt g p (W.setCell ⟨ea, 2, none⟩ (il (sh p (L (N + 6))))) D ra N (N + 6 + 1) L ib cap eo pb ea ib2 ed es n5 n6 n11 :=
  ⟨by rw [← shM_succ]; exact h.tr.ua _, h.vr.far (atNe h.vr (h.tr.arr) (by decide)) _, h.rne, h.tb.far (h.tr.arr) (by decide) _, h.fr.setCell (h.tr.lo.2.2.2.2.1) _, fun x cs hx => (h.ty x cs hx).far (atNe (h.ty x cs hx) (h.tr.arr) (by decide)) _⟩
theorem ST.sb {w W : World} {rt g D ra N : Nat} {p : Int} {L : Nat → Int} {ib cap eo pb ea ib2 ed es n5 n6 n11 : Nat} (h : ST w rt g p W D ra N (N + 7) L ib cap eo pb ea ib2 ed es n5 n6 n11) : ST w rt g p (W.setCell ⟨ib2, 1, none⟩ (il (sh p (L (N + 7))))) D ra N (N + 7 + 1) L ib cap eo pb ea ib2 ed es n5 n6 n11 :=
  ⟨by rw [← shM_succ]; exact h.tr.ub _, h.vr.far h.rne.2.2 _, h.rne, h.tb.far (h.tr.row2) (by decide) _, h.fr.setCell (h.tr.lo.2.2.2.2.2) _, fun x cs hx => (h.ty x cs hx).far (atNe (h.ty x cs hx) (h.tr.row2) (by decide)) _⟩
theorem ST.se {w W : World} {rt g D ra N : Nat} {p : Int} {L : Nat → Int} {ib cap eo pb ea ib2 ed es n5 n6 n11 : Nat} (h : ST w rt g p W D ra N (N + 8) L ib cap eo pb ea ib2 ed es n5 n6 n11) : ST w rt g p (W.setCell ⟨ib2, 3, none⟩ (il (sh p (L (N + 8))))) D ra N (N + 8 + 1) L ib cap eo pb ea ib2 ed es n5 n6 n11 :=
  ⟨by rw [← shM_succ]; exact h.tr.ue _, h.vr.far h.rne.2.2 _, h.rne, h.tb.far (h.tr.row2) (by decide) _, h.fr.setCell (h.tr.lo.2.2.2.2.2) _, fun x cs hx => (h.ty x cs hx).far (atNe (h.ty x cs hx) (h.tr.row2) (by decide)) _⟩
theorem ST.sd {w W : World} {rt g D ra N : Nat} {p : Int} {L : Nat → Int} {ib cap eo pb ea ib2 ed es n5 n6 n11 : Nat} (h : ST w rt g p W D ra N (N + 9) L ib cap eo pb ea ib2 ed es n5 n6 n11) : ST w rt g p (W.setCell ⟨ib, (N + 1) * 2 + 1, none⟩ (il (sh p (L (N + 9))))) D ra N (N + 9 + 1) L ib cap eo pb ea ib2 ed es n5 n6 n11 :=
  ⟨by rw [← shM_succ]; exact h.tr.ud _, h.vr.far h.rne.2.1 _, h.rne, h.tb.far (h.tr.row.choose_spec.1) (by decide) _, h.fr.setCell (h.tr.lo.2.1) _, fun x cs hx => (h.ty x cs hx).far (atNe (h.ty x cs hx) (h.tr.row.choose_spec.1) (by decide)) _⟩

section
variable (w : World) (rt g cp D ra N : Nat) (p : Int) (L : Nat → Int) (ib cap eo pb ea ib2 ed es n5 n6 n11 : Nat) (hN : N ≤ 65536) (hp : 0 ≤ p ∧ p ≤ 2147483647) (hL : ∀ i, -2147483648 ≤ L i ∧ L i ≤ 2147483647)
include hN hp hL
/-- The inner array. -/
theorem rInner (W : World) (h : ST w rt g p W D ra N (N + 5) L ib cap eo pb ea ib2 ed es n5 n6 n11) : Calls Tryd.prog 67 #[.pointer (some ⟨pb, 3, none⟩), .slice (some ⟨g, 0, none⟩) 1 cp] W fun e W' => e = .returned (.tuple #[]) ∧ ST w rt g p W' D ra N (N + 9) L ib cap eo pb ea ib2 ed es n5 n6 n11 := by
  have hT := h.tr
  have _hN := hN
  have hpr : At W pb 231 #[.pointer none, ex 223 es, il (shM p (N + 5) L (N + 4)), ex 255 ea, il (L (N + 5)), .nilIface, il 0, .slice none 0 0, il 0, il 0, .int .u8 0, .int .u8 0] := by
    have := hT.prop
    rwa [shM_at p (N + 5) L (i := N + 5) (by omega)] at this
  have har : At W ea 258 #[.slice (some ⟨ib2, 0, none⟩) 2 2, il 0, il (L (N + 6)), .bool false, .bool false] := by
    have := hT.arr
    rwa [shM_at p (N + 5) L (i := N + 6) (by omega)] at this
  have gb : g ≠ pb := by obtain ⟨cs, h0, _⟩ := h.tb; exact atNe h0 hpr (by decide)
  refine (rArr pb 3 ea g cp ib2 2 2 p (L (N + 5)) (L (N + 6)) (il 0) (.bool false) (.bool false) W (fun k W' => ST w rt g p W' D ra N (N + 7 + k) L ib cap eo pb ea ib2 ed es n5 n6 n11) (by omega) hp (hL _) (hL _) (by rw [hpr.cell]; rfl) (by rw [hpr.cell]; rfl) (hpr.frozen _) har (atNe hpr har (by decide)) h.tb gb ?_ ?_ ?_).mono fun e W' h => ⟨h.1, h.2⟩
  · intro w1 w2 h1 h2
    have h3 := ST.sv (h.below h1)
    have h4 := h3.below (by rw [show (w1.setCell ⟨pb, 4, none⟩ (il (sh p (L (N + 5))))).heap.size = w1.heap.size from by simp [World.setCell]]; exact h2)
    exact ST.sa h4
  · intro k W' hk
    have := hk.tr.arr
    exact ⟨by rw [this.cell]; rfl, by omega, by unfold maxLen; omega, fun _ _ => hk.tr.row2.lt⟩
  · intro k W' hk h5
    have hr2 := h5.tr.row2
    match k, hk with
    | 0, _ =>
      have e1 : W'.cell? ⟨ib2, 0 * 2 + 1, none⟩ = some (il (L (N + 7))) := by rw [hr2.cell]; show some (il (shM p (N + 7 + 0) L (N + 7))) = _; rw [shM_at p _ L (by omega)]
      refine (rLeaf212 ib2 (0 * 2) n5 g cp p (L (N + 7)) W' h5.tb hp (hL _) (by rw [hr2.cell]; rfl) e1 (hr2.frozen _)).mono ?_
      rintro e W2 ⟨he, wm, hb, rfl⟩
      exact ⟨he, ST.sb (h5.below hb)⟩
    | 1, _ =>
      have e1 : W'.cell? ⟨ib2, 1 * 2 + 1, none⟩ = some (il (L (N + 8))) := by rw [hr2.cell]; show some (il (shM p (N + 7 + 1) L (N + 8))) = _; rw [shM_at p _ L (by omega)]
      refine (rLeaf212 ib2 (1 * 2) n6 g cp p (L (N + 8)) W' h5.tb hp (hL _) (by rw [hr2.cell]; rfl) e1 (hr2.frozen _)).mono ?_
      rintro e W2 ⟨he, wm, hb, rfl⟩
      exact ⟨he, ST.se (h5.below hb)⟩
    | k + 2, hk => omega
/-- The object. -/
theorem rObject (W : World) (h : ST w rt g p W D ra N (N + 2) L ib cap eo pb ea ib2 ed es n5 n6 n11) : Calls Tryd.prog 67 #[.pointer (some ⟨ib, N * 2, none⟩), .slice (some ⟨g, 0, none⟩) 1 cp] W fun e W' => e = .returned (.tuple #[]) ∧ ST w rt g p W' D ra N (N + 9) L ib cap eo pb ea ib2 ed es n5 n6 n11 := by
  have hT := h.tr
  obtain ⟨cs, r1, r2, ra1, rb, rc, rd⟩ := hT.row
  rw [shM_at p _ L (by omega)] at rb
  have hob : At W eo 71 #[.slice (some ⟨pb, 0, none⟩) 1 1, il 0, il (L (N + 3)), .bool false, .bool false] := by
    have := hT.obj
    rwa [shM_at p _ L (by omega)] at this
  have gb : g ≠ ib := by obtain ⟨cs, h0, _⟩ := h.tb; exact atNe h0 r1 (by decide)
  refine (rObj ib (N * 2) eo g cp pb 1 p (L (N + 2)) (L (N + 3)) (il 0) (.bool false) (.bool false) W (fun W' => ST w rt g p W' D ra N (N + 4) L ib cap eo pb ea ib2 ed es n5 n6 n11) (fun W' => ST w rt g p W' D ra N (N + 5) L ib cap eo pb ea ib2 ed es n5 n6 n11) (fun W' => ST w rt g p W' D ra N (N + 9) L ib cap eo pb ea ib2 ed es n5 n6 n11) hp (hL _) (hL _) (by rw [r1.cell]; exact ra1) (by rw [r1.cell]; exact rb) (r1.frozen _) hob (atNe r1 hob (by decide)) h.tb gb ?_ ?_ ?_ ?_).mono fun e W' h => ⟨h.1, h.2⟩
  · intro w1 w2 h1 h2
    have h3 := ST.so (h.below h1)
    have h4 := h3.below (by rw [show (w1.setCell ⟨ib, N * 2 + 1, none⟩ (il (sh p (L (N + 2))))).heap.size = w1.heap.size from by simp [World.setCell]]; exact h2)
    exact ST.sc h4
  · intro W' hk
    have key : ∀ m, ST w rt g p W' D ra N m L ib cap eo pb ea ib2 ed es n5 n6 n11 → W'.cell? ⟨eo, 0, none⟩ = some (.slice (some ⟨pb, 0, none⟩) 1 1) ∧ 1 ≤ 1 ∧ 1 ≤ maxLen ∧ pb < W'.heap.size := fun m hk => ⟨by rw [hk.tr.obj.cell]; rfl, by omega, by unfold maxLen; omega, hk.tr.prop.lt⟩
    rcases hk with hk | hk | hk
    · exact key _ hk
    · exact key _ hk
    · exact key _ hk
  · intro W' h5
    have hr2 := h5.tr.prop
    have e1 : W'.cell? ⟨pb, 1 + 1, none⟩ = some (il (L (N + 4))) := by rw [hr2.cell]; show some (il (shM p (N + 4) L (N + 4))) = _; rw [shM_at p _ L (by omega)]
    refine (rLeaf223 pb 1 es g cp p (L (N + 4)) W' h5.tb hp (hL _) (by rw [hr2.cell]; rfl) e1 (hr2.frozen _)).mono ?_
    rintro e W2 ⟨he, wm, hb, rfl⟩
    exact ⟨he, ST.sk (h5.below hb)⟩
  · intro W' h5
    exact rInner w rt g cp D ra N p L ib cap eo pb ea ib2 ed es n5 n6 n11 hN hp hL W' h5
def MM (N k : Nat) : Nat := if k ≤ N then 2 + k else if k = N + 1 then N + 9 else N + 10
/-- The whole tree. -/
theorem rTree (hTR : TR w D ra N L ib cap eo pb ea ib2 ed es n5 n6 n11) (hrt : At w rt 35 #[ex 255 ra, il (L 0)]) (hne : D ≤ rt ∧ rt ≠ ib ∧ rt ≠ ib2) (hTB : TB w g p) (hD : D ≤ w.heap.size) : Calls Tryd.prog 67 #[.pointer (some ⟨rt, 0, none⟩), .slice (some ⟨g, 0, none⟩) 1 cp] w fun e W' => e = .returned (.tuple #[]) ∧ ST w rt g p W' D ra N (N + 10) L ib cap eo pb ea ib2 ed es n5 n6 n11 := by
  have gb : g ≠ rt := by obtain ⟨cs, h0, _⟩ := hTB; exact atNe h0 hrt (by decide)
  have hra := hTR.root
  refine (rArr rt 0 ra g cp ib (N + 2) cap p (L 0) (L 1) (il 0) (.bool false) (.bool false) w (fun k W' => ST w rt g p W' D ra N (MM N k) L ib cap eo pb ea ib2 ed es n5 n6 n11) (by omega) hp (hL _) (hL _) (by rw [hrt.cell]; rfl) (by rw [hrt.cell]; rfl) (hrt.frozen _) hra (atNe hrt hra (by decide)) hTB gb ?_ ?_ ?_).mono fun e W' h => ⟨h.1, by have := h.2; unfold MM at this; rwa [if_neg (by omega), if_neg (by omega)] at this⟩
  · intro w1 w2 h1 h2
    have t1 := hTR.below h1
    have a1 := hrt.below h1 hrt.lt
    have b1 := hTB.below h1
    have s1 : ST w rt g p (w1.setCell ⟨rt, 1, none⟩ (il (sh p (L 0)))) D ra N 1 L ib cap eo pb ea ib2 ed es n5 n6 n11 := by
      refine ⟨(t1.setFar ⟨fun e => atNe a1 t1.root (by decide) e, hne.2.1, fun e => atNe a1 t1.obj (by decide) e, fun e => atNe a1 t1.prop (by decide) e, fun e => atNe a1 t1.arr (by decide) e, hne.2.2⟩ a1 rfl _).congr (fun i hi => (shM_at p 1 L hi).symm), a1.set 1 _, hne, b1.far a1 (by decide) _, (h1.mono hD).setCell hne.1 _, fun x cs hx => (hx.below h1 hx.lt).far (atNe (hx.below h1 hx.lt) a1 (by decide)) _⟩
    have h4 := s1.below (by rw [show (w1.setCell ⟨rt, 1, none⟩ (il (sh p (L 0)))).heap.size = w1.heap.size from by simp [World.setCell]]; exact h2)
    have h5 := ST.s1 h4
    unfold MM
    rw [if_pos (by omega)]
    exact h5
  · intro k W' hk
    obtain ⟨cs, r1, _⟩ := hk.tr.row
    exact ⟨by rw [hk.tr.root.cell]; rfl, hk.tr.capN.1, hk.tr.capN.2, fun _ _ => r1.lt⟩
  · intro k W' hk h5
    obtain ⟨cs, r1, r2, ra1, rb, rc, rd⟩ := h5.tr.row
    by_cases c1 : k < N
    · have eM : MM N k = 2 + k := by unfold MM; rw [if_pos (by omega)]
      have eM1 : MM N (k + 1) = 2 + k + 1 := by unfold MM; rw [if_pos (by omega)]; omega
      obtain ⟨x, x1, x2, x3⟩ := r2 k c1
      rw [eM] at h5
      rw [eM, shM_at p _ L (by omega)] at x2
      refine (rLeaf212 ib (k * 2) x g cp p (L (2 + k)) W' h5.tb hp (hL _) (by rw [r1.cell]; exact x1) (by rw [r1.cell]; exact x2) (r1.frozen _)).mono ?_
      rintro e W2 ⟨he, wm, hb, rfl⟩
      exact ⟨he, by rw [eM1]; exact ST.si c1 (h5.below hb)⟩
    · by_cases c2 : k = N
      · subst c2
        have eM : MM k k = k + 2 := by unfold MM; rw [if_pos (by omega)]; omega
        have eM1 : MM k (k + 1) = k + 9 := by unfold MM; rw [if_neg (by omega), if_pos rfl]
        rw [eM] at h5
        rw [eM1]
        exact rObject w rt g cp D ra k p L ib cap eo pb ea ib2 ed es n5 n6 n11 hN hp hL W' h5
      · obtain rfl : k = N + 1 := by omega
        have eM : MM N (N + 1) = N + 9 := by unfold MM; rw [if_neg (by omega), if_pos rfl]
        have eM1 : MM N (N + 1 + 1) = N + 9 + 1 := by unfold MM; rw [if_neg (by omega), if_neg (by omega)]
        rw [eM] at h5
        rw [eM, shM_at p _ L (by omega)] at rd
        refine (rLeaf262 ib ((N + 1) * 2) ed g cp p (L (N + 9)) W' h5.tb hp (hL _) (by rw [r1.cell]; exact rc) (by rw [r1.cell]; exact rd) (r1.frozen _)).mono ?_
        rintro e W2 ⟨he, wm, hb, rfl⟩
        exact ⟨he, by rw [eM1]; exact ST.sd (h5.below hb)⟩
end
end Go.Proofs.YtjlmaingeobgeaaDoor
