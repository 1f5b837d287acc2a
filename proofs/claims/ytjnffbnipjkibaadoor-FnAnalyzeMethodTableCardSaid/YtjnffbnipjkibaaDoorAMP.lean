/- Proved here: the contracts of newPrivateSymbol, of the class context's maker . Conditions as stated. -/
import Derived.Test.YtjnffbnipjkibaaDoorAMA
import Derived.WalkKit
import Derived.WalkSpells
import Derived.WalkLawsBesides
import Derived.Lib.Hide
import Derived.Lib.SliceRun
import Derived.Deep.RegionWith
import Derived.OwnWalk
import Derived.Laws.OwnMore
import Derived.BigRegion
namespace Go.Proofs.YtjnffbnipjkibaaDoor
open Go.RowKit
set_option linter.unusedSimpArgs false
set_option linter.unusedVariables false

theorem newSym (b : Nat) (ts : Bool) (ex : Int) (nm : ByteArray) (kd : Int) (w : World) (hg : Glob w) (hb : 0 < b) (h : PA w b ts ex) :
    Calls Tryd.prog 25 #[.pointer (some ⟨b, 0, none⟩), .int .u8 kd, .string nm] w (NSP b nm kd w) := by
  cases ts
  · exact newSymF b ex nm kd w hg hb h
  · exact newSymT b ex nm kd w hg hb h
/-- The parser at block b with one private symbol, whose flags are pf. -/
def PB (w : World) (b : Nat) (ts : Bool) (ex pf : Int) : Prop := ∃ gg cap, w.cell? ⟨b, 23, none⟩ = some (.int .u64 0) ∧ w.cell? ⟨b, 26, none⟩ = some (.int .u8 ex) ∧ w.cell? ⟨b, 32, none⟩ = some (.bool ts) ∧ w.cell? ⟨b, 106, none⟩ = some (.slice (some ⟨gg, 0, none⟩) 1 cap) ∧ w.cell? ⟨gg, 7, none⟩ = some (.int .u16 pf) ∧ w.cell? ⟨gg, 8, none⟩ = some (.int .u8 8)
theorem PB.keep {w w' : World} {b : Nat} {ts : Bool} {ex pf : Int} (h : PB w b ts ex pf) (hb : Below w.heap.size w w') : PB w' b ts ex pf := by
  obtain ⟨gg, cap, h1, h2, h3, h4, h5, h6⟩ := h
  exact ⟨gg, cap, kept hb h1, kept hb h2, kept hb h3, kept hb h4, kept hb h5, kept hb h6⟩
def NPS (b : Nat) (ts : Bool) (ex pf : Int) (w : World) (e : Ending) (w' : World) : Prop := e = .returned (.int .u32 0) ∧ PB w' b ts ex pf ∧ Below b w w' ∧ w.heap.size ≤ w'.heap.size ∧ ∀ k, k < w.heap.size → k ≠ b → w'.heap[k]? = w.heap[k]?
set_option maxRecDepth 100000 in
set_option maxHeartbeats 8000000 in
theorem newPriv (b : Nat) (ts : Bool) (ex pf : Int) (hpf : pf = 0 ∨ pf = 8) (nm : ByteArray) (w : World) (hg : Glob w) (hb : 0 < b) (h : PA w b ts ex) :
    Calls Tryd.prog 6 #[.pointer (some ⟨b, 0, none⟩), .string nm, .int .u64 pf] w (NPS b ts ex pf w) := by
  have HS := Lib.hid (newSym b ts ex nm 8 w hg hb h)
  obtain ⟨h23, h26, h32, h66, _⟩ := h
  have lb0 : b < w.heap.size := World.block_lt_of_cell? _ _ h66
  clear h66 hg
  rcases hpf with rfl | rfl
  all_goals
    go_enter Tryd.func6, Tryd.ntmps6
    go_wp2_with fail
    refine HS.out.mono ?_
    rintro e w1 ⟨gg, cap, rfl, c106, g1, g2, hc, hf, hk, hbl, hblk⟩
    have c7 : w1.cell? ⟨gg, 7, none⟩ = some (.int .u16 0) := (hc 7 (by omega)).trans rfl
    have c8 : w1.cell? ⟨gg, 8, none⟩ = some (.int .u8 8) := (hc 8 (by omega)).trans rfl
    have f7 := hf 7
    have q23 : w1.cell? ⟨b, 23, none⟩ = some (.int .u64 0) := (hk 23 (by omega) (by omega)).trans h23
    have q26 : w1.cell? ⟨b, 26, none⟩ = some (.int .u8 ex) := (hk 26 (by omega) (by omega)).trans h26
    have q32 : w1.cell? ⟨b, 32, none⟩ = some (.bool ts) := (hk 32 (by omega) (by omega)).trans h32
    have HB := Lib.hid hbl
    have HK := Lib.hid hblk
    have sz := hbl.size
    have lb : b < w1.heap.size := by omega
    have n1 : ¬ gg = b := by omega
    have n2 : ¬ b = gg := by omega
    have n3 : ¬ gg = w1.heap.size := by omega
    have n4 : ¬ b = w1.heap.size := by omega
    have n5 : ¬ w1.heap.size = gg := by omega
    have n6 : ¬ w1.heap.size = b := by omega
    clear hc hf hk hbl hblk h23 h26 h32 HS
    go_wp2_with fail
    go_region
    all_goals
      go_wp2_with fail
      go_ret
      exact ⟨rfl, ⟨gg, cap, by simp [go_sem, *], by simp [go_sem, *], by simp [go_sem, *], by simp [go_sem, *], by simp [go_sem, *], by simp [go_sem, *]⟩, (by repeat (first | with_reducible exact HB.out | (with_reducible refine Below.drew ?_) | (with_reducible refine Below.alloc ?_ (by simp; try omega) _) | (with_reducible refine Below.setCell ?_ (by simp; try omega) _))), by simp [World.setCell]; omega, fun k hk hkb => by
        refine Eq.trans ?_ (HK.out k hk hkb)
        show ((w1.setCell _ _).alloc _).heap[k]? = _
        rw [Below.heap_alloc _ _ k (by simp [World.setCell]; omega), Below.heap_setCell _ _ _ k (by simp; omega)]⟩

/-- The class at block k of the context at block c. -/
def CX (w : World) (c k : Nat) (us lo : Bool) : Prop := w.cell? ⟨c, 2, none⟩ = some (.pointer (some ⟨k, 0, none⟩)) ∧ w.cell? ⟨k, 9, none⟩ = some (.bool lo) ∧ w.cell? ⟨k, 10, none⟩ = some (.bool us)
def NCx (us lo : Bool) (w : World) (e : Ending) (w' : World) : Prop := ∃ c k, e = .returned (.pointer (some ⟨c, 0, none⟩)) ∧ CX w' c k us lo ∧ w'.cell? ⟨k, 4, none⟩ = some (.slice none 0 0) ∧ w'.frozen? ⟨k, 4, none⟩ = false ∧ c ≠ k ∧ w.heap.size ≤ k ∧ w.heap.size ≤ c ∧ Below w.heap.size w w'
set_option maxRecDepth 100000 in
set_option maxHeartbeats 8000000 in
theorem newCtx (us lo : Bool) (w : World) (hg : Glob w) : Calls Tryd.prog 7 #[.bool us, .bool lo] w (NCx us lo w) := by
  obtain ⟨hg0, hg1⟩ := hg
  have l0 : 0 < w.heap.size := World.block_lt_of_cell? _ _ hg0
  go_enter Tryd.func7, Tryd.ntmps7
  go_wp2_with fail
  go_ret
  exact ⟨w.heap.size + 1, w.heap.size, rfl, ⟨by simp [go_sem], by simp [go_sem], by simp [go_sem]⟩, by simp [go_sem], by simp [go_sem], by omega, by omega, by omega, (by repeat (first | with_reducible exact Below.refl _ _ | (with_reducible refine Below.alloc ?_ (by simp; try omega) _)))⟩
end Go.Proofs.YtjnffbnipjkibaaDoor
