/- Proved here: the contracts of ZZselectLocalKind and zzParentFor of the law FnSelectLocalKindIdempotentAndOnlyWeakens. Conditions as stated. -/
import Derived.Test.YtnlljlcikdkppaaSLA
import Derived.WalkKit
import Derived.WalkSpells
import Derived.WalkLawsBesides
import Derived.Lib.Hide
import Derived.Lib.SliceRun
import Derived.Deep.RegionWith
import Derived.OwnWalk
import Derived.Laws.OwnMore
namespace Go.Proofs.Ytnlljlcikdkppaa
open Go.RowKit
set_option linter.unusedSimpArgs false
set_option linter.unusedVariables false

noncomputable def pz (c : Nat) (b : Bool) : Array Value := ((zeroOf Try.prog 165).setIfInBounds 104 (.pointer (some ⟨c, 0, none⟩))).setIfInBounds 352 (.bool b)
theorem pz_size (c : Nat) (b : Bool) : (pz c b).size = 353 := by kernel_rfl
theorem pz_104 (c : Nat) (b : Bool) : (pz c b)[104]? = some (.pointer (some ⟨c, 0, none⟩)) := by kernel_rfl
theorem pz_352 (c : Nat) (b : Bool) : (pz c b)[352]? = some (.bool b) := by kernel_rfl
theorem pz_23 (c : Nat) (b : Bool) : (pz c b)[23]? = some (.int .u64 0) := by kernel_rfl
theorem pz_34 (c : Nat) (b : Bool) : (pz c b)[34]? = some (.int .u8 0) := by kernel_rfl
theorem pz_41 (c : Nat) (b : Bool) : (pz c b)[41]? = some (.bool false) := by kernel_rfl
attribute [local go_sem] pz_size
theorem wpRun0 {P : Program} {ops : Array Oper} {rest : List Oper} {o : Oper} {a : Act} {w : World} {Q : Exit → Act → World → Prop} (hgd : o.guard = none) (v : Value)
    (hr : (execOp a.eval o).run P w = .ok (.value v) w) (h : wpList P ops Q rest (a.put o.dst v) w) : wpList P ops Q (o :: rest) a w := wpList_run hgd v w hr h
def ZS (k f mode : Int) (mini wrap : Bool) (v : Option Addr) (w : World) (e : Ending) (w' : World) : Prop := e = .returned (.int .u8 (kS k (hasB f) (decide (mode = 2)) mini wrap v.isNone)) ∧ Below w.heap.size w w'
set_option maxRecDepth 100000 in
set_option maxHeartbeats 4000000 in
theorem zsel (k f mode : Int) (mini wrap : Bool) (v : Option Addr) (w : World) :
    Calls Try.prog 4 #[.int .u8 k, .int .u64 f, .int .u8 mode, .bool mini, .bool wrap, .pointer v] w (ZS k f mode mini wrap v w) := by
  have HC := Lib.hid (fun (b c : Nat) (W : World) => sel k f mode mini wrap b c v W)
  have hsz : w.heap.size < w.heap.size + 1 := by omega
  go_enter Try.func4, Try.ntmps4
  go_wp2_with (refine wpRun0 (o := ⟨some 18, .build 165 _, _, _, _, _⟩) rfl (.agg (pz w.heap.size wrap)) ?hr ?_; case hr => kernel_rfl)
  have ha := At.new w 46 #[.pointer none, .pointer v, .slice none 0 0, .map none, .slice none 0 0, .slice none 0 0, .int .i32 0, .int .i32 0, .int .u32 0, .int .u32 0, .bool false, .bool false, .bool false, .bool false, .int .u8 0, .int .u8 0]
  generalize hW : w.alloc (Obj.cells #[.pointer none, .pointer v, .slice none 0 0, .map none, .slice none 0 0, .slice none 0 0, .int .i32 0, .int .i32 0, .int .u32 0, .int .u32 0, .bool false, .bool false, .bool false, .bool false, .int .u8 0, .int .u8 0] 46) = W at ha ⊢
  have hs : W.heap.size = w.heap.size + 1 := by rw [← hW]; simp
  have hbel : Below w.heap.size w W := by rw [← hW]; exact (Below.refl _ _).alloc (Nat.le_refl _) _
  have hb := At.new W 165 ((((pz w.heap.size wrap).setIfInBounds 23 (.int .u64 f)).setIfInBounds 34 (.int .u8 mode)).setIfInBounds 41 (.bool mini))
  have ha' := ha.alloc (.cells ((((pz w.heap.size wrap).setIfInBounds 23 (.int .u64 f)).setIfInBounds 34 (.int .u8 mode)).setIfInBounds 41 (.bool mini)) 165)
  rw [hs] at hb
  have hsz := pz_size w.heap.size wrap
  refine (HC.out (w.heap.size + 1) w.heap.size _ ?_ ?_ ?_ ?_ ?_ ?_).mono ?_
  · rw [hb.cell, Array.getElem?_setIfInBounds_ne (by decide), Array.getElem?_setIfInBounds_ne (by decide), Array.getElem?_setIfInBounds_self_of_lt (by rw [hsz]; decide)]
  · rw [hb.cell, Array.getElem?_setIfInBounds_ne (by decide), Array.getElem?_setIfInBounds_self_of_lt (by simp [hsz])]
  · rw [hb.cell, Array.getElem?_setIfInBounds_self_of_lt (by simp [hsz])]
  · rw [hb.cell, Array.getElem?_setIfInBounds_ne (by decide), Array.getElem?_setIfInBounds_ne (by decide), Array.getElem?_setIfInBounds_ne (by decide), pz_352]
  · rw [hb.cell, Array.getElem?_setIfInBounds_ne (by decide), Array.getElem?_setIfInBounds_ne (by decide), Array.getElem?_setIfInBounds_ne (by decide), pz_104]
  · rw [ha'.cell]; rfl
  rintro e w1 ⟨rfl, rfl⟩
  have HB := Lib.hid (hbel.alloc (by omega) (.cells ((((pz w.heap.size wrap).setIfInBounds 23 (.int .u64 f)).setIfInBounds 34 (.int .u8 mode)).setIfInBounds 41 (.bool mini)) 165))
  clear hbel ha ha' hb
  go_wp2_with fail
  go_ret
  exact ⟨rfl, HB.out⟩
def ZP (t : Bool) (w : World) (e : Ending) (w' : World) : Prop := ∃ v : Option Addr, e = .returned (.pointer v) ∧ v.isNone = t ∧ Below w.heap.size w w'
set_option maxRecDepth 100000 in
theorem zpar (t : Bool) (w : World) : Calls Try.prog 5 #[.bool t] w (ZP t w) := by
  cases t
  all_goals
    go_enter Try.func5, Try.ntmps5
    go_wp2_with fail
    go_ret
    first | exact ⟨_, rfl, rfl, (Below.refl _ _).alloc (Nat.le_refl _) _⟩ | exact ⟨_, rfl, rfl, Below.refl _ _⟩
end Go.Proofs.Ytnlljlcikdkppaa
