/- Proved here: the walk of the law FnWillNeedBindingPatternTable, for every token and either value of allowIn. -/
import Derived.Test.YtckagihmmhlcaaaProg
import Derived.WalkKit
import Derived.WalkSpells
import Derived.WalkLawsBesides
import Derived.Lib.Hide
import Derived.Deep.QuietTactic
import Derived.BigQuiet
namespace Go.Proofs.Ytckagihmmhlcaaa.fnWillNeedBindingPatternTable
open Go.RowKit
set_option linter.unusedSimpArgs false
set_option linter.unusedVariables false

def zeroOf (P : Program) (t : TypeId) : Array Value := match P.info? t with | some i => (match i.zero with | some z => z.cells | none => #[]) | none => #[]
noncomputable def pz (x : Value) : Array Value := (zeroOf Try.prog 231).setIfInBounds 346 x
theorem build231 (x : Bool) (w : World) : (Instr.build 231 #[(104, .bool x)]).run Try.prog w = .ok (.agg (pz (.bool x))) w := by kernel_rfl
theorem pz_size (x : Value) : (pz x).size = 353 := by kernel_rfl
attribute [local go_sem] pz_size

theorem wpList_run {P : Program} {ops : Array Oper} {rest : List Oper} {o : Oper} {a : Act} {w : World} {Q : Exit → Act → World → Prop} (hgd : o.guard = none) (v : Value) (w' : World)
    (hr : (execOp a.eval o).run P w = .ok (.value v) w') (h : wpList P ops Q rest (a.put o.dst v) w') : wpList P ops Q (o :: rest) a w :=
  wpList_plain hgd fun next hK => by
    show o.upon P a next Q ((execOp a.eval o).run P w)
    rw [hr]
    exact hK _ _ h


def ans (a : Int) (x : Bool) : Bool := a == 59 || (a == 91 && !x)

set_option maxRecDepth 100000 in
set_option maxHeartbeats 400000 in
theorem will_any (b : Nat) (a : Int) (x : Bool) (w : World) (h1 : w.cell? ⟨b, 270, none⟩ = some (.int .u8 a)) (h2 : w.cell? ⟨b, 346, none⟩ = some (.bool x)) (hx : a = 69 → x = true) :
    Calls Try.prog 29 #[.pointer (some ⟨b, 0, none⟩)] w fun e w' => e = .returned (.bool (ans a x)) ∧ w = w' := by
  by_cases c1 : a = 59
  · subst c1
    clear hx
    go_enter Try.func29, Try.ntmps29
    go_wp2
    go_ret
    exact ⟨rfl, rfl⟩
  · by_cases c2 : a = 91
    · subst c2
      clear hx
      go_enter Try.func29, Try.ntmps29
      go_wp2
      go_ret
      exact ⟨by simp [ans], rfl⟩
    · by_cases c3 : a = 69
      · subst c3
        obtain rfl := hx rfl
        go_enter Try.func29, Try.ntmps29
        go_wp2
        go_ret
        exact ⟨rfl, rfl⟩
      · clear hx
        have F : ans a x = false := by simp [ans, c1, c2]
        have F' := Lib.hid F
        clear F
        have d1 : (a == 59) = false := by simp [c1]
        have d2 : (a == 91) = false := by simp [c2]
        have d3 : (a == 69) = false := by simp [c3]
        clear c1 c2 c3
        go_enter Try.func29, Try.ntmps29
        go_wp2
        go_ret
        exact ⟨by rw [F'.out]; rfl, rfl⟩

theorem pz_346 (x : Value) : (pz x)[346]? = some x := by kernel_rfl

set_option maxRecDepth 100000 in
set_option maxHeartbeats 400000 in
theorem zz_any (a : Int) (x : Bool) (w : World) (hx : a = 69 → x = true) :
    Calls Try.prog 17 #[.int .u8 a, .bool x] w fun e w' => e = .returned (.bool (ans a x)) ∧ Below w.heap.size w w' := by
  have H := Lib.hid hx
  clear hx
  go_enter Try.func17, Try.ntmps17
  go_wp2_with (refine wpList_run (o := ⟨some 7, .build 231 #[(104, .tmp 6)], _, _, _, _⟩) rfl (.agg (pz (.bool x))) w ?hr ?_; case hr => kernel_rfl)
  refine (will_any _ a x _ ?_ ?_ H.out).mono ?_
  · simp [go_sem, pz_size]
  · rw [World.cell?_alloc_new, Array.getElem?_setIfInBounds_ne (by decide), pz_346]
  rintro e w' ⟨rfl, rfl⟩
  go_wp2_with fail
  go_ret
  exact ⟨rfl, (Below.refl _ _).alloc (Nat.le_refl _) _⟩

theorem nat_of_wf {a : Int} (h : (Lit.int .u8 a).wf = true) : 0 ≤ a ∧ a ≤ 255 := by
  have hmin : IntKind.u8.min = 0 := rfl
  have hmax : IntKind.u8.max = 255 := rfl
  simp only [Lit.wf, Bool.and_eq_true, decide_eq_true_eq] at h
  exact ⟨by omega, by omega⟩

set_option maxRecDepth 100000 in
set_option maxHeartbeats 400000 in
theorem walk (a0 : Int) (a1 : Bool) (w : World) (w0 : (Lit.int .u8 a0).wf = true) :
    Calls Try.prog 7 #[.int .u8 a0, .bool a1] w fun e w' => e = .returned (.bool true) ∧ Below w.heap.size w w' := by
  clear w0
  by_cases c3 : a0 = 69
  · subst c3
    cases a1
    · go_enter Try.func7, Try.ntmps7
      go_wp2_with fail
      go_ret
      exact ⟨rfl, Below.refl _ _⟩
    · go_enter Try.func7, Try.ntmps7
      go_wp2_with fail
      refine (zz_any _ _ _ (fun _ => rfl)).mono ?_
      rintro e w1 ⟨rfl, hb⟩
      rw [show ans 69 true = false from rfl]
      go_wp2_with fail
      go_ret
      exact ⟨rfl, hb⟩
  · have d3 : (a0 == 69) = false := by simp [c3]
    have C := Lib.hid c3
    clear c3
    by_cases c1 : a0 = 59
    · subst c1
      go_enter Try.func7, Try.ntmps7
      go_wp2_with fail
      refine (zz_any _ _ _ (fun h => absurd h C.out)).mono ?_
      rintro e w1 ⟨rfl, hb⟩
      rw [show ans 59 a1 = true from rfl]
      go_wp2_with fail
      go_ret
      exact ⟨rfl, hb⟩
    · have d1 : (a0 == 59) = false := by simp [c1]
      by_cases c2 : a0 = 91
      · subst c2
        clear c1
        go_enter Try.func7, Try.ntmps7
        go_wp2_with fail
        refine (zz_any _ _ _ (fun h => absurd h C.out)).mono ?_
        rintro e w1 ⟨rfl, hb⟩
        rw [show ans 91 a1 = !a1 by simp [ans]]
        cases a1
        · go_wp2_with fail
          go_ret
          exact ⟨rfl, hb⟩
        · go_wp2_with fail
          go_ret
          exact ⟨rfl, hb⟩
      · have d2 : (a0 == 91) = false := by simp [c2]
        have F := Lib.hid (show ans a0 a1 = false by simp [ans, c1, c2])
        clear c1 c2
        go_enter Try.func7, Try.ntmps7
        go_wp2_with fail
        refine (zz_any _ _ _ (fun h => absurd h C.out)).mono ?_
        rintro e w1 ⟨rfl, hb⟩
        rw [F.out]
        go_wp2_with fail
        go_ret
        exact ⟨rfl, hb⟩
end Go.Proofs.Ytckagihmmhlcaaa.fnWillNeedBindingPatternTable
