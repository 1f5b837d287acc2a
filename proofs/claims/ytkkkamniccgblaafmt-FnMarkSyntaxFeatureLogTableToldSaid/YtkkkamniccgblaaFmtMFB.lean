/- Proved here: small contracts. -/
import Derived.Test.YtkkkamniccgblaaFmtMFA
import Derived.Test.YtkkkamniccgblaaFmtAPX
import Derived.Test.YtkkkamniccgblaaFmtShelf
import Derived.WalkKit
import Derived.WalkSpells
import Derived.WalkLawsBesides
import Derived.Lib.Hide
import Derived.Lib.SliceRun
import Derived.Deep.RegionWith
import Derived.BigRegion
import Derived.StillTailTactics
import Derived.OwnWalk
import Derived.Laws.OwnMore
import Derived.BigQuiet
import Derived.IntWalk
namespace Go.Proofs.YtkkkamniccgblaaFmt
open Go.RowKit
set_option linter.unusedSimpArgs false
set_option linter.unusedVariables false

namespace MF
theorem spr3d (f s s2 s3 : ByteArray) (T : TypeId) (H : Nat) (w : World) (hH : H = w.heap.size) : (callFunc 16 #[.string f, .slice (some ⟨H, 0, none⟩) 3 3]).run Tryf.prog (w.alloc (.cells #[.iface 9 (.string s), .iface 9 (.string s2), .iface 9 (.string s3)] T)).drew = .ok (.value (.string (txt f [.iface 9 (.string s), .iface 9 (.string s2), .iface 9 (.string s3)] T w.drew))) (w.alloc (.cells #[.iface 9 (.string s), .iface 9 (.string s2), .iface 9 (.string s3)] T)).drew.drew := spr3 f s s2 s3 T H w.drew hH
abbrev il (l : Int) : Value := .int .i32 l
def hasB (a b : Int) : Bool := bits BinOp.and IntKind.u64 a b != 0
theorem has (a b : Int) (w : World) : Calls Tryf.prog 13 #[.int .u64 a, .int .u64 b] w fun e w' => e = .returned (.bool (hasB a b)) ∧ w' = w := by
  go_enter Tryf.func13, Tryf.ntmps13
  go_wp2_with fail
  go_ret
  exact ⟨rfl, rfl⟩
def keepB (f : Int) : Bool := decide (f = 0) || decide (f = 3)
theorem keep (f : Int) (w : World) : Calls Tryf.prog 14 #[.int .u8 f] w fun e w' => e = .returned (.bool (keepB f)) ∧ w' = w := by
  unfold keepB
  by_cases h0 : f = 0 <;> by_cases h3 : f = 3
  all_goals (go_enter Tryf.func14, Tryf.ntmps14; go_wp2_with fail; go_ret; first | exact ⟨rfl, rfl⟩ | simp_all [go_sem])
theorem fstr (f : Int) (w : World) : Calls Tryf.prog 17 #[.int .u8 f] w fun e w' => (∃ s, e = .returned (.string s)) ∧ w' = w := by
  go_enter Tryf.func17, Tryf.ntmps17
  go_wp2_with fail
  all_goals (go_ret; exact ⟨⟨_, rfl⟩, rfl⟩)
set_option maxRecDepth 100000 in
theorem textFor (p lo ln : Nat) (s : ByteArray) (w : World) (hc : w.cell? ⟨p, 60, none⟩ = some (.string s)) (h : lo + ln ≤ s.size) (hs : s.size ≤ 1048576) :
    Calls Tryf.prog 19 #[.pointer (some ⟨p, 57, none⟩), .agg #[il lo, il ln]] w fun e w' => (∃ s, e = .returned (.string s)) ∧ Below w.heap.size w w' := by
  have lp := World.block_lt_of_cell? _ _ hc
  have b1 : (0 : Int) ≤ lo ∧ (lo : Int) ≤ 1048576 := by omega
  have b2 : (0 : Int) ≤ ln ∧ (ln : Int) ≤ 1048576 := by omega
  have b3 : (0 : Int) ≤ (lo : Int) + ln ∧ (lo : Int) + ln ≤ 1048576 := by omega
  obtain ⟨u, hu⟩ : ∃ u : Int, (lo : Int) + ln = u := ⟨_, rfl⟩
  have hsl : ∀ wx : World, (Instr.slice 9 (.string s) (some (il lo)) (some (il u)) none).run Tryf.prog wx = .ok (.string (s.extract lo u.toNat)) wx := by
    intro wx
    have := run_slice_string (P := Tryf.prog) wx 9 s .i32 .i32 (lo : Int) u Tryf.underlying9 (by omega) (by omega) (by omega)
    simpa using this
  have hwr : IntKind.i32.wrap ((lo : Int) + ln) = u := by rw [hu]; exact IntWalk.i32_in u (by omega)
  clear hu b1 b2 b3 h hs
  go_enter Tryf.func19, Tryf.ntmps19
  go_wp2_with fail
  go_quiet (fail)
  go_wp2_with fail
  go_ret
  exact ⟨⟨_, rfl⟩, (by repeat (first | with_reducible exact Below.refl _ _ | (with_reducible refine below_drewN ?_ _) | (with_reducible refine Below.drew ?_) | (with_reducible refine Below.alloc ?_ (by simp; try omega) _) | (with_reducible refine Below.setCell ?_ (by simp; try omega) _)))⟩
set_option maxRecDepth 100000 in
theorem track (p : Nat) (s a b : ByteArray) (w : World) (hc : w.cell? ⟨p, 60, none⟩ = some (.string s)) (ha : w.cell? ⟨p, 57, none⟩ = some (.string a)) (hb : w.cell? ⟨p, 58, none⟩ = some (.string b)) :
    Calls Tryf.prog 10 #[.pointer (some ⟨p, 57, none⟩)] w fun e w' => e = .returned (.agg #[.string s, .string a, .string b, il 0, il 0, il 0, il 0, .bool true, .bool false, .bool true]) ∧ Below w.heap.size w w' := by
  have lp := World.block_lt_of_cell? _ _ hc
  go_enter Tryf.func10, Tryf.ntmps10
  go_wp2_with fail
  obtain ⟨W, hW⟩ : ∃ W, W = w.alloc (Obj.cells #[Value.string { data := #[] }, Value.string { data := #[] }, Value.string { data := #[] }, Value.int IntKind.i32 0, Value.int IntKind.i32 0, Value.int IntKind.i32 0, Value.int IntKind.i32 0, Value.bool false, Value.bool false, Value.bool false] 93) := ⟨_, rfl⟩
  have hat : At W w.heap.size 93 #[Value.string { data := #[] }, Value.string { data := #[] }, Value.string { data := #[] }, Value.int IntKind.i32 0, Value.int IntKind.i32 0, Value.int IntKind.i32 0, Value.int IntKind.i32 0, Value.bool false, Value.bool false, Value.bool false] := by rw [hW]; exact At.new _ _ _
  have HB : Below w.heap.size w W := by rw [hW]; exact (Below.refl _ _).alloc (Nat.le_refl _) _
  have c0 : W.cell? ⟨p, 60, none⟩ = some (.string s) := (HB.cell lp).trans hc
  have c1 : W.cell? ⟨p, 57, none⟩ = some (.string a) := (HB.cell lp).trans ha
  have c2 : W.cell? ⟨p, 58, none⟩ = some (.string b) := (HB.cell lp).trans hb
  rw [← hW]
  clear hW
  obtain ⟨H, hH⟩ : ∃ H, w.heap.size = H := ⟨_, rfl⟩
  rw [hH] at hat HB ⊢
  have gf : ∀ i, W.frozen? ⟨H, i, none⟩ = false := hat.frozen
  have g0 : W.cell? ⟨H, 0, none⟩ = some (Value.string { data := #[] }) := by rw [hat.cell]; rfl
  have g1 : W.cell? ⟨H, 1, none⟩ = some (Value.string { data := #[] }) := by rw [hat.cell]; rfl
  have g2 : W.cell? ⟨H, 2, none⟩ = some (Value.string { data := #[] }) := by rw [hat.cell]; rfl
  have g3 : W.cell? ⟨H, 3, none⟩ = some (il 0) := by rw [hat.cell]; rfl
  have g4 : W.cell? ⟨H, 4, none⟩ = some (il 0) := by rw [hat.cell]; rfl
  have g5 : W.cell? ⟨H, 5, none⟩ = some (il 0) := by rw [hat.cell]; rfl
  have g6 : W.cell? ⟨H, 6, none⟩ = some (il 0) := by rw [hat.cell]; rfl
  have g7 : W.cell? ⟨H, 7, none⟩ = some (.bool false) := by rw [hat.cell]; rfl
  have g8 : W.cell? ⟨H, 8, none⟩ = some (.bool false) := by rw [hat.cell]; rfl
  have g9 : W.cell? ⟨H, 9, none⟩ = some (.bool false) := by rw [hat.cell]; rfl
  clear hat
  go_region
  go_wp2_with fail
  refine bodyPost_ret (v := .agg #[.string s, .string a, .string b, il 0, il 0, il 0, il 0, .bool true, .bool false, .bool true]) (by simp [results, Tryf.results10, go_sem, g0, g1, g2, g3, g4, g5, g6, g7, g8, g9]) rfl ⟨rfl, ?_⟩
  rw [hH]
  repeat (first | with_reducible exact HB | (with_reducible refine Below.drew ?_) | (with_reducible refine Below.setCell ?_ (by simp) _))
def PREL (w : World) (v6 v7 : Value) (wr : World) : Prop := ∃ (c : Int) (k : Nat), k < 18446744073709551616 ∧ v6 = .int .i64 c ∧ v7 = .int .u64 k ∧ wr = w
set_option maxRecDepth 100000 in
theorem pretty (s : ByteArray) (m : Nat) (w : World) (hm : m < 18446744073709551616) : Calls Tryf.prog 18 #[.string s, .int .u64 m] w fun e w' => (∃ s, e = .returned (.string s)) ∧ Below w.heap.size w w' := by
  have HS3 := spr3
  have HSd := spr3d
  have HS2 := spr2i
  go_enter Tryf.func18, Tryf.ntmps18
  by_cases h0 : m = 0
  · subst h0
    go_wp2_with fail
    all_goals (go_ret; exact ⟨⟨_, rfl⟩, (by repeat (first | (with_reducible refine below_drewN ?_ _) | with_reducible exact Below.refl _ _ | (with_reducible refine Below.drew ?_) | (with_reducible refine Below.alloc ?_ (by simp; try omega) _) | (with_reducible refine Below.setCell ?_ (by simp; try omega) _)))⟩)
  · have h0' : ((m : Int) != 0) = true := by simpa using h0
    go_wp2_with fail
    go_loopw [6, 7] (fun v6 v7 wr => PREL w v6 v7 wr) (fun _ v7 _ => (intOf v7).toNat)
    case atStart => exact ⟨0, m, hm, rfl, rfl, rfl⟩
    case round =>
      obtain ⟨c, k, hk, rfl, rfl, rfl⟩ := hrel
      by_cases hk0 : k = 0
      · subst hk0
        go_wp2_with fail
        all_goals (go_ret; exact ⟨⟨_, rfl⟩, (by repeat (first | (with_reducible refine below_drewN ?_ _) | with_reducible exact Below.refl _ _ | (with_reducible refine Below.drew ?_) | (with_reducible refine Below.alloc ?_ (by simp; try omega) _) | (with_reducible refine Below.setCell ?_ (by simp; try omega) _)))⟩)
      · have h0'' : ((k : Int) != 0) = true := by simpa using hk0
        go_wp2_with fail
        all_goals refine ⟨⟨_, k / 2, by omega, rfl, by simp, rfl⟩, ?_⟩
        all_goals (simp [intOf] <;> omega)
end MF
end Go.Proofs.YtkkkamniccgblaaFmt
