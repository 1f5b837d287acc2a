/- Proved here: what the message's location and data are. -/
import Derived.Test.YtkkkamniccgblaaFmtMFG
import Derived.WalkKit
import Derived.WalkSpells
import Derived.WalkLawsBesides
import Derived.Lib.Hide
import Derived.Lib.SliceRun
import Derived.Deep.RegionWith
import Derived.BigRegion
import Derived.BigQuiet
import Derived.OwnWalk
import Derived.Laws.OwnMore
import Derived.Deep.Cut
import Derived.Carry
import Derived.IntWalk
import Derived.StillTailTactics
import Derived.Deep.RegionHeld3
namespace Go.Proofs.YtkkkamniccgblaaFmt
open Go.RowKit
set_option linter.unusedSimpArgs false
set_option linter.unusedVariables false

namespace MF

def MLP (w : World) (p : Nat) (e : Ending) (w' : World) : Prop := (∃ lp : Option Addr, e = .returned (.pointer lp)) ∧ KT p w w'
set_option maxRecDepth 100000 in
set_option maxHeartbeats 4000000 in
theorem locOrNil (p o ln : Nat) (s a b : ByteArray) (w : World) (ho : o ≤ s.size) (hln : ln ≤ s.size) (hs : s.size ≤ 1048576) (hT : Lib.Utf8Tabs 0 1 w) (hp0 : p ≠ 0) (hp1 : p ≠ 1) (h : TK w p s a b 0 0 0 0 true false) :
    Calls Tryf.prog 33 #[.pointer (some ⟨p, 67, none⟩), .agg #[il o, il ln]] w (MLP w p) := by
  have lp : p < w.heap.size := World.block_lt_of_cell? _ _ h.c0
  have c76 : (w.alloc (.cells #[il o, il ln] 56)).cell? ⟨p, 76, none⟩ = some (.bool true) := (((Below.refl _ w).alloc (Nat.le_refl _) _).cell lp).trans h.so
  have HB : Below w.heap.size w (w.alloc (.cells #[il o, il ln] 56)) := (Below.refl _ w).alloc (Nat.le_refl _) _
  have hat := At.new w 56 #[il o, il ln]
  have HC := Lib.hid (compute p o s a b (w.alloc (.cells #[il o, il ln] 56)) ho hs (tabsX (by simp) (by simp) hT (KX.ofBelow (X := []) HB)) hp0 hp1 (h.below HB))
  have HAT := Lib.hid hat
  have HBh := Lib.hid HB
  clear hat HB hT h
  go_enter Tryf.func33, Tryf.ntmps33
  go_wp2_with fail
  go_at_call 44
  refine HC.out.mono ?_
  rintro e wq ⟨⟨n, c, ls, le, rfl, h1, h2⟩, hk, c67, c68, c69⟩
  have hz : (w.alloc (.cells #[il o, il ln] 56)).heap.size = w.heap.size + 1 := by simp
  have c0 : wq.cell? ⟨w.heap.size, 1, none⟩ = some (il ln) := by
    have : At wq w.heap.size 56 #[il o, il ln] := (hk.k.2 _ (by omega) (by simp; omega)).trans HAT.out
    rw [At.cell this]; rfl
  have HK : KT p w wq := ((KT.refl p w).alloc lp _).trans hk
  have HKh := Lib.hid HK
  have wlt : w.heap.size < wq.heap.size := by have := hk.k.1; omega
  have hsl : ∀ wx : World, (Instr.slice 9 (.string s) (some (.int .i64 (ls : Int))) (some (.int .i64 (le : Int))) none).run Tryf.prog wx = .ok (.string (s.extract ls le)) wx := by
    intro wx
    have := run_slice_string (P := Tryf.prog) wx 9 s .i64 .i64 (ls : Int) (le : Int) Tryf.underlying9 (by omega) (by omega) (by omega)
    simpa using this
  have lq : p < wq.heap.size := by omega
  clear hk HK HC HAT HBh hz
  go_wp2_with fail
  go_region
  go_wp2_with fail
  go_ret
  exact ⟨⟨_, rfl⟩, (HKh.out.alloc lp _).drew⟩
theorem At.below' {w w' : World} {p g : Nat} {t : TypeId} {cs : Array Value} (h : At w g t cs) (hk : KT p w w') (hg : g ≠ p) (hl : g < w.heap.size) : At w' g t cs := (hk.k.2 g hl (by simp [hg])).trans h
theorem KT.setNew {p : Nat} {w w' : World} (h : KT p w w') (hp : p < w.heap.size) {g : Nat} (hg : w.heap.size ≤ g) (i : Nat) (v : Value) : KT p w (w'.setCell ⟨g, i, none⟩ v) :=
  ⟨⟨by have := h.k.1; simp; omega, fun b hb hx => (Below.heap_setCell w' ⟨g, i, none⟩ v b (show b ≠ g by omega)).trans (h.k.2 b hb hx)⟩,
   fun j hj => (World.cell?_setCell_other _ _ _ _ (fun e => by have : g = p := congrArg Addr.block e; omega)).trans (h.c j hj), fun j => by simp [h.f j], fun B x1 x2 => (h.b B x1 x2).setCell (show B ≤ g by omega) _⟩
def MDP (w : World) (p : Nat) (x : ByteArray) (e : Ending) (w' : World) : Prop := (∃ lp : Option Addr, e = .returned (.agg #[.nilIface, .pointer lp, .string x, .bool false])) ∧ KT p w w'
set_option maxRecDepth 100000 in
set_option maxHeartbeats 4000000 in
theorem msgData (p o ln : Nat) (s a b x : ByteArray) (w : World) (ho : o ≤ s.size) (hln : ln ≤ s.size) (hs : s.size ≤ 1048576) (hT : Lib.Utf8Tabs 0 1 w) (hp0 : p ≠ 0) (hp1 : p ≠ 1) (h : TK w p s a b 0 0 0 0 true false) :
    Calls Tryf.prog 28 #[.pointer (some ⟨p, 67, none⟩), .agg #[il o, il ln], .string x] w (MDP w p x) := by
  have lp : p < w.heap.size := World.block_lt_of_cell? _ _ h.c0
  obtain ⟨W, hW⟩ : ∃ W, W = (w.alloc (.cells #[il o, il ln] 56)).alloc (.cells #[.nilIface, .pointer none, .string ⟨#[]⟩, .bool false] 31) := ⟨_, rfl⟩
  have HB : Below w.heap.size w W := by rw [hW]; exact ((Below.refl _ w).alloc (Nat.le_refl _) _).alloc (by simp) _
  have at0 : At W w.heap.size 56 #[il o, il ln] := by rw [hW]; exact (At.new w 56 _).alloc _
  have at1 : At W (w.heap.size + 1) 31 #[.nilIface, .pointer none, .string ⟨#[]⟩, .bool false] := by
    rw [hW]; have := At.new (w.alloc (.cells #[il o, il ln] 56)) 31 #[.nilIface, .pointer none, .string ⟨#[]⟩, .bool false]
    simpa using this
  have HC := Lib.hid (locOrNil p o ln s a b W ho hln hs (tabsX (by simp) (by simp) hT (KX.ofBelow (X := []) HB)) hp0 hp1 (h.below HB))
  have HKW := Lib.hid ((KT.refl p w).below lp HB)
  have q0 : W.cell? ⟨w.heap.size, 0, none⟩ = some (il o) := by rw [At.cell at0]; rfl
  have q1 : W.cell? ⟨w.heap.size, 1, none⟩ = some (il ln) := by rw [At.cell at0]; rfl
  have wsz : w.heap.size + 1 < W.heap.size := by rw [hW]; simp
  have HA := Lib.hid at1
  clear HB hT h at0 at1
  subst hW
  go_enter Tryf.func28, Tryf.ntmps28
  go_wp2_with fail
  go_at_call 33
  refine HC.out.mono ?_
  rintro e wq ⟨⟨l, rfl⟩, hk⟩
  have at1 := At.below' HA.out hk (by omega) (by omega)
  have HK := Lib.hid (HKW.out.trans hk)
  have gf : ∀ i, wq.frozen? ⟨w.heap.size + 1, i, none⟩ = false := At.frozen at1
  have g0 : wq.cell? ⟨w.heap.size + 1, 0, none⟩ = some .nilIface := by rw [At.cell at1]; rfl
  have g1 : wq.cell? ⟨w.heap.size + 1, 1, none⟩ = some (.pointer none) := by rw [At.cell at1]; rfl
  have g2 : wq.cell? ⟨w.heap.size + 1, 2, none⟩ = some (.string ⟨#[]⟩) := by rw [At.cell at1]; rfl
  have g3 : wq.cell? ⟨w.heap.size + 1, 3, none⟩ = some (.bool false) := by rw [At.cell at1]; rfl
  clear at1 hk HC HKW q0 q1 wsz HA
  go_wp2_with fail
  refine bodyPost_ret (v := .agg #[.nilIface, .pointer l, .string x, .bool false]) (by simp [results, Tryf.results28, go_sem, g0, g1, g2, g3]) rfl ⟨⟨l, rfl⟩, ?_⟩
  repeat (first | with_reducible exact HK.out | (with_reducible refine KT.setNew ?_ lp (by omega) _ _))
end MF
end Go.Proofs.YtkkkamniccgblaaFmt
