/- Proved here: the contract of the new parser. Conditions as stated. -/
import Derived.Test.YtgghakmfcodojaaDoorUCB
import Derived.WalkKit
import Derived.WalkSpells
import Derived.WalkLawsBesides
import Derived.Lib.Hide
import Derived.Lib.SliceRun
import Derived.Deep.RegionWith
import Derived.OwnWalk
import Derived.Laws.OwnMore
import Derived.Carry
namespace Go.Proofs.YtgghakmfcodojaaDoor
open Go.RowKit
set_option linter.unusedSimpArgs false
set_option linter.unusedVariables false

noncomputable def pz (s c m p q b : Value) : Array Value := ((((((zeroOf Tryd.prog 182).setIfInBounds 106 s).setIfInBounds 104 c).setIfInBounds 187 m).setIfInBounds 105 p).setIfInBounds 117 q).setIfInBounds 352 b
theorem pz_size (s c m p q b : Value) : (pz s c m p q b).size = 353 := by kernel_rfl
attribute [local go_sem] pz_size
theorem build182 (a : Option Addr) (n c : Nat) (p7 p58 p8 : Option Addr) (x : Option Nat) (b : Bool) (w : World) : (Instr.build 182 #[(9, .slice a n c), (7, .pointer p7), (58, .pointer p58), (8, .pointer p8), (20, .map x), (110, .bool b)]).run Tryd.prog w = .ok (.agg (pz (.slice a n c) (.pointer p7) (.pointer p58) (.pointer p8) (.map x) (.bool b))) w := by kernel_rfl
theorem wpList_run0 {P : Program} {ops : Array Oper} {rest : List Oper} {o : Oper} {a : Act} {w : World} {Q : Exit → Act → World → Prop} (hgd : o.guard = none) (v : Value)
    (hr : (execOp a.eval o).run P w = .ok (.value v) w) (h : wpList P ops Q rest (a.put o.dst v) w) : wpList P ops Q (o :: rest) a w := wpList_run hgd v w hr h
def NPP (n : Nat) (w : World) (e : Ending) (w' : World) : Prop :=
  ∃ b xs, e = .returned (.pointer (some ⟨b, 0, none⟩)) ∧ w.heap.size ≤ b ∧ PS w' w.heap.size b 7 false n xs ∧ Below w.heap.size w w'
theorem newP_end (w w1 : World) (n : Nat) (xs : List Value) (o1 o2 o3 : Obj) (arr : Array Value) (h66 : arr[66]? = some (.int .u32 7)) (h106 : arr[106]? = some (.slice (some ⟨w.heap.size, 0, none⟩) n n)) (h32 : arr[32]? = some (.bool false))
    (hown : w1.ownsRow w.heap.size 189 10 (.slice (some ⟨w.heap.size, 0, none⟩) n n) n xs) (hgr : w.grownBy w1 none) :
    NPP n w (.returned (.pointer (some ⟨w1.heap.size + 1 + 1 + 1, 0, none⟩))) ((((w1.alloc o1).alloc o2).alloc o3).alloc (.cells arr 182)) := by
  have hlt : w.heap.size < w1.heap.size := (World.ownsRow.lt hown w.heap.size rfl).2
  have hat : At ((((w1.alloc o1).alloc o2).alloc o3).alloc (.cells arr 182)) (w1.heap.size + 1 + 1 + 1) 182 arr := by
    have := heap_alloc_new (((w1.alloc o1).alloc o2).alloc o3) (.cells arr 182)
    unfold At
    simpa using this
  refine ⟨w1.heap.size + 1 + 1 + 1, xs, rfl, by omega, ⟨some ⟨w.heap.size, 0, none⟩, n, by rw [hat.cell]; exact h66, by rw [hat.cell]; exact h106, hat.frozen _, by rw [hat.cell]; exact h32, ?_, fun k hk => by simp [Value.ownBlock] at hk; omega⟩, ?_⟩
  · exact World.ownsRow.alloc (World.ownsRow.alloc (World.ownsRow.alloc (World.ownsRow.alloc hown _) _) _) _
  · refine ((((Below.grown (Below.refl _ _) hgr (Nat.le_refl _) (fun k hk => by cases hk)).alloc (by omega) _).alloc (by simp; omega) _).alloc (by simp; omega) _).alloc (by simp; omega) _
set_option maxRecDepth 100000 in
set_option maxHeartbeats 4000000 in
theorem newP (n m : Nat) (w : World) (hn : n ≤ 65536) :
    Calls Tryd.prog 12 #[.int .u32 7, .int .i64 (n : Int), .int .u64 0, .int .u8 0, .bool false, .bool false, .pointer (some ⟨m, 0, none⟩), .pointer (some ⟨m, 0, none⟩)] w (NPP n w) := by
  obtain ⟨i0, hi0, hz0, hz1, hz2⟩ := info_parts info189
  have HI := Lib.hid hi0
  have H0 := Lib.hid hz0
  have H1 := Lib.hid hz1
  have H2 := Lib.hid hz2
  clear hi0 hz0 hz1 hz2
  have hmm := @run_makeMap Tryd.prog
  go_enter Tryd.func12, Tryd.ntmps12
  go_wp2_with (with_reducible refine wpList_make_full _ (o := ⟨some 19, _, _, _, _, _⟩) rfl _ _ 125 rfl w.heap.size 189 i0 _ 10 Tryd.underlying125 HI.out H0.out H1.out .i64 .i64 _ _ n rfl rfl rfl rfl ?c1 ?c2 (Nat.le_refl _) ?_)
  case c1 => rw [H2.out]; omega
  case c2 => unfold maxLen; omega
  intro w1 hown hgr
  go_wp2_with (refine wpList_run0 (o := ⟨some 27, .build 182 #[(9, .tmp 19), (7, .tmp 20), (58, .tmp 21), (8, .tmp 24), (20, .tmp 25), (110, .tmp 26)], _, _, _, _⟩) rfl (.agg (pz (.slice (some ⟨w.heap.size, 0, none⟩) n n) (.pointer (some ⟨m, 0, none⟩)) (.pointer (some ⟨m, 0, none⟩)) (.pointer (some ⟨w1.heap.size + 1, 0, none⟩)) (.map (some (w1.heap.size + 2))) (.bool false))) ?hr ?_; case hr => kernel_rfl)
  exact bodyPost_ret (v := .pointer (some ⟨w1.heap.size + 1 + 1 + 1, 0, none⟩)) (by simp [results, Tryd.results12, go_sem]) rfl (newP_end w w1 n _ _ _ _ _ (by kernel_rfl) (by kernel_rfl) (by kernel_rfl) hown hgr)
end Go.Proofs.YtgghakmfcodojaaDoor
