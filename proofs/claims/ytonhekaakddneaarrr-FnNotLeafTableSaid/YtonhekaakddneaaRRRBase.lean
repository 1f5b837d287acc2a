/- Proved here: closed facts on this program that the walks use: what a type assertion to each pointer type answers, what a field of a struct value is; and small lemmas on worlds. No condition. -/
import Derived.Test.YtonhekaakddneaaRRRProg
import Derived.WalkKit
import Derived.Lib.Hide
import Derived.Below
import Derived.Laws.Rows
import Derived.Deep.Draws
import Derived.LaidEql
namespace Go.Proofs.YtonhekaakddneaaRRR
open Go.RowKit
set_option linter.unusedVariables false
set_option linter.unusedSimpArgs false

theorem ta_gen {P : Program} {c e : TypeId} (hu : P.underlying c = some (.pointer e)) (hz : ∀ w, (zeroValue c).run P w = .ok (.pointer none) w) (t : TypeId) (v : Value) (xT : TypeId) (w : World) :
    (Instr.typeAssert (.iface t v) xT c true).run P w = .ok (.tuple #[if t = c then v else .pointer none, .bool (decide (t = c))]) w := by
  by_cases h : t = c
  · subst h
    simp [Instr.typeAssert, run_underlying hu]
  · simp [Instr.typeAssert, run_underlying hu, h, hz]
theorem ta_nil {P : Program} {c e : TypeId} (hu : P.underlying c = some (.pointer e)) (hz : ∀ w, (zeroValue c).run P w = .ok (.pointer none) w) (xT : TypeId) (w : World) :
    (Instr.typeAssert .nilIface xT c true).run P w = .ok (.tuple #[.pointer none, .bool false]) w := by
  simp [Instr.typeAssert, run_underlying hu, hz]
theorem ta_bare {P : Program} {c e : TypeId} (hu : P.underlying c = some (.pointer e)) (v : Value) (xT : TypeId) (w : World) :
    (Instr.typeAssert (.iface c v) xT c false).run P w = .ok v w := by
  simp [Instr.typeAssert, run_underlying hu]
theorem tz43 (w : World) : (zeroValue 43).run Try.prog w = .ok (.pointer none) w := by kernel_rfl
@[go_sem] theorem ta43 (t : TypeId) (v : Value) (xT : TypeId) (w : World) : (Instr.typeAssert (.iface t v) xT 43 true).run Try.prog w = .ok (.tuple #[if t = 43 then v else .pointer none, .bool (decide (t = 43))]) w := ta_gen Try.underlying43 tz43 t v xT w
@[go_sem] theorem tn43 (xT : TypeId) (w : World) : (Instr.typeAssert .nilIface xT 43 true).run Try.prog w = .ok (.tuple #[.pointer none, .bool false]) w := ta_nil Try.underlying43 tz43 xT w
@[go_sem] theorem tb43 (v : Value) (xT : TypeId) (w : World) : (Instr.typeAssert (.iface 43 v) xT 43 false).run Try.prog w = .ok v w := ta_bare Try.underlying43 v xT w
theorem tz44 (w : World) : (zeroValue 44).run Try.prog w = .ok (.pointer none) w := by kernel_rfl
@[go_sem] theorem ta44 (t : TypeId) (v : Value) (xT : TypeId) (w : World) : (Instr.typeAssert (.iface t v) xT 44 true).run Try.prog w = .ok (.tuple #[if t = 44 then v else .pointer none, .bool (decide (t = 44))]) w := ta_gen Try.underlying44 tz44 t v xT w
@[go_sem] theorem tn44 (xT : TypeId) (w : World) : (Instr.typeAssert .nilIface xT 44 true).run Try.prog w = .ok (.tuple #[.pointer none, .bool false]) w := ta_nil Try.underlying44 tz44 xT w
@[go_sem] theorem tb44 (v : Value) (xT : TypeId) (w : World) : (Instr.typeAssert (.iface 44 v) xT 44 false).run Try.prog w = .ok v w := ta_bare Try.underlying44 v xT w
theorem tz45 (w : World) : (zeroValue 45).run Try.prog w = .ok (.pointer none) w := by kernel_rfl
@[go_sem] theorem ta45 (t : TypeId) (v : Value) (xT : TypeId) (w : World) : (Instr.typeAssert (.iface t v) xT 45 true).run Try.prog w = .ok (.tuple #[if t = 45 then v else .pointer none, .bool (decide (t = 45))]) w := ta_gen Try.underlying45 tz45 t v xT w
@[go_sem] theorem tn45 (xT : TypeId) (w : World) : (Instr.typeAssert .nilIface xT 45 true).run Try.prog w = .ok (.tuple #[.pointer none, .bool false]) w := ta_nil Try.underlying45 tz45 xT w
@[go_sem] theorem tb45 (v : Value) (xT : TypeId) (w : World) : (Instr.typeAssert (.iface 45 v) xT 45 false).run Try.prog w = .ok v w := ta_bare Try.underlying45 v xT w
theorem tz53 (w : World) : (zeroValue 53).run Try.prog w = .ok (.pointer none) w := by kernel_rfl
@[go_sem] theorem ta53 (t : TypeId) (v : Value) (xT : TypeId) (w : World) : (Instr.typeAssert (.iface t v) xT 53 true).run Try.prog w = .ok (.tuple #[if t = 53 then v else .pointer none, .bool (decide (t = 53))]) w := ta_gen Try.underlying53 tz53 t v xT w
@[go_sem] theorem tn53 (xT : TypeId) (w : World) : (Instr.typeAssert .nilIface xT 53 true).run Try.prog w = .ok (.tuple #[.pointer none, .bool false]) w := ta_nil Try.underlying53 tz53 xT w
@[go_sem] theorem tb53 (v : Value) (xT : TypeId) (w : World) : (Instr.typeAssert (.iface 53 v) xT 53 false).run Try.prog w = .ok v w := ta_bare Try.underlying53 v xT w
theorem tz57 (w : World) : (zeroValue 57).run Try.prog w = .ok (.pointer none) w := by kernel_rfl
@[go_sem] theorem ta57 (t : TypeId) (v : Value) (xT : TypeId) (w : World) : (Instr.typeAssert (.iface t v) xT 57 true).run Try.prog w = .ok (.tuple #[if t = 57 then v else .pointer none, .bool (decide (t = 57))]) w := ta_gen Try.underlying57 tz57 t v xT w
@[go_sem] theorem tn57 (xT : TypeId) (w : World) : (Instr.typeAssert .nilIface xT 57 true).run Try.prog w = .ok (.tuple #[.pointer none, .bool false]) w := ta_nil Try.underlying57 tz57 xT w
@[go_sem] theorem tb57 (v : Value) (xT : TypeId) (w : World) : (Instr.typeAssert (.iface 57 v) xT 57 false).run Try.prog w = .ok v w := ta_bare Try.underlying57 v xT w
theorem tz68 (w : World) : (zeroValue 68).run Try.prog w = .ok (.pointer none) w := by kernel_rfl
@[go_sem] theorem ta68 (t : TypeId) (v : Value) (xT : TypeId) (w : World) : (Instr.typeAssert (.iface t v) xT 68 true).run Try.prog w = .ok (.tuple #[if t = 68 then v else .pointer none, .bool (decide (t = 68))]) w := ta_gen Try.underlying68 tz68 t v xT w
@[go_sem] theorem tn68 (xT : TypeId) (w : World) : (Instr.typeAssert .nilIface xT 68 true).run Try.prog w = .ok (.tuple #[.pointer none, .bool false]) w := ta_nil Try.underlying68 tz68 xT w
@[go_sem] theorem tb68 (v : Value) (xT : TypeId) (w : World) : (Instr.typeAssert (.iface 68 v) xT 68 false).run Try.prog w = .ok v w := ta_bare Try.underlying68 v xT w
theorem tz82 (w : World) : (zeroValue 82).run Try.prog w = .ok (.pointer none) w := by kernel_rfl
@[go_sem] theorem ta82 (t : TypeId) (v : Value) (xT : TypeId) (w : World) : (Instr.typeAssert (.iface t v) xT 82 true).run Try.prog w = .ok (.tuple #[if t = 82 then v else .pointer none, .bool (decide (t = 82))]) w := ta_gen Try.underlying82 tz82 t v xT w
@[go_sem] theorem tn82 (xT : TypeId) (w : World) : (Instr.typeAssert .nilIface xT 82 true).run Try.prog w = .ok (.tuple #[.pointer none, .bool false]) w := ta_nil Try.underlying82 tz82 xT w
@[go_sem] theorem tb82 (v : Value) (xT : TypeId) (w : World) : (Instr.typeAssert (.iface 82 v) xT 82 false).run Try.prog w = .ok v w := ta_bare Try.underlying82 v xT w
theorem tz84 (w : World) : (zeroValue 84).run Try.prog w = .ok (.pointer none) w := by kernel_rfl
@[go_sem] theorem ta84 (t : TypeId) (v : Value) (xT : TypeId) (w : World) : (Instr.typeAssert (.iface t v) xT 84 true).run Try.prog w = .ok (.tuple #[if t = 84 then v else .pointer none, .bool (decide (t = 84))]) w := ta_gen Try.underlying84 tz84 t v xT w
@[go_sem] theorem tn84 (xT : TypeId) (w : World) : (Instr.typeAssert .nilIface xT 84 true).run Try.prog w = .ok (.tuple #[.pointer none, .bool false]) w := ta_nil Try.underlying84 tz84 xT w
@[go_sem] theorem tb84 (v : Value) (xT : TypeId) (w : World) : (Instr.typeAssert (.iface 84 v) xT 84 false).run Try.prog w = .ok v w := ta_bare Try.underlying84 v xT w
theorem tz94 (w : World) : (zeroValue 94).run Try.prog w = .ok (.pointer none) w := by kernel_rfl
@[go_sem] theorem ta94 (t : TypeId) (v : Value) (xT : TypeId) (w : World) : (Instr.typeAssert (.iface t v) xT 94 true).run Try.prog w = .ok (.tuple #[if t = 94 then v else .pointer none, .bool (decide (t = 94))]) w := ta_gen Try.underlying94 tz94 t v xT w
@[go_sem] theorem tn94 (xT : TypeId) (w : World) : (Instr.typeAssert .nilIface xT 94 true).run Try.prog w = .ok (.tuple #[.pointer none, .bool false]) w := ta_nil Try.underlying94 tz94 xT w
@[go_sem] theorem tb94 (v : Value) (xT : TypeId) (w : World) : (Instr.typeAssert (.iface 94 v) xT 94 false).run Try.prog w = .ok v w := ta_bare Try.underlying94 v xT w
theorem tz97 (w : World) : (zeroValue 97).run Try.prog w = .ok (.pointer none) w := by kernel_rfl
@[go_sem] theorem ta97 (t : TypeId) (v : Value) (xT : TypeId) (w : World) : (Instr.typeAssert (.iface t v) xT 97 true).run Try.prog w = .ok (.tuple #[if t = 97 then v else .pointer none, .bool (decide (t = 97))]) w := ta_gen Try.underlying97 tz97 t v xT w
@[go_sem] theorem tn97 (xT : TypeId) (w : World) : (Instr.typeAssert .nilIface xT 97 true).run Try.prog w = .ok (.tuple #[.pointer none, .bool false]) w := ta_nil Try.underlying97 tz97 xT w
@[go_sem] theorem tb97 (v : Value) (xT : TypeId) (w : World) : (Instr.typeAssert (.iface 97 v) xT 97 false).run Try.prog w = .ok v w := ta_bare Try.underlying97 v xT w
theorem tz102 (w : World) : (zeroValue 102).run Try.prog w = .ok (.pointer none) w := by kernel_rfl
@[go_sem] theorem ta102 (t : TypeId) (v : Value) (xT : TypeId) (w : World) : (Instr.typeAssert (.iface t v) xT 102 true).run Try.prog w = .ok (.tuple #[if t = 102 then v else .pointer none, .bool (decide (t = 102))]) w := ta_gen Try.underlying102 tz102 t v xT w
@[go_sem] theorem tn102 (xT : TypeId) (w : World) : (Instr.typeAssert .nilIface xT 102 true).run Try.prog w = .ok (.tuple #[.pointer none, .bool false]) w := ta_nil Try.underlying102 tz102 xT w
@[go_sem] theorem tb102 (v : Value) (xT : TypeId) (w : World) : (Instr.typeAssert (.iface 102 v) xT 102 false).run Try.prog w = .ok v w := ta_bare Try.underlying102 v xT w
theorem tz114 (w : World) : (zeroValue 114).run Try.prog w = .ok (.pointer none) w := by kernel_rfl
@[go_sem] theorem ta114 (t : TypeId) (v : Value) (xT : TypeId) (w : World) : (Instr.typeAssert (.iface t v) xT 114 true).run Try.prog w = .ok (.tuple #[if t = 114 then v else .pointer none, .bool (decide (t = 114))]) w := ta_gen Try.underlying114 tz114 t v xT w
@[go_sem] theorem tn114 (xT : TypeId) (w : World) : (Instr.typeAssert .nilIface xT 114 true).run Try.prog w = .ok (.tuple #[.pointer none, .bool false]) w := ta_nil Try.underlying114 tz114 xT w
@[go_sem] theorem tb114 (v : Value) (xT : TypeId) (w : World) : (Instr.typeAssert (.iface 114 v) xT 114 false).run Try.prog w = .ok v w := ta_bare Try.underlying114 v xT w
theorem tz117 (w : World) : (zeroValue 117).run Try.prog w = .ok (.pointer none) w := by kernel_rfl
@[go_sem] theorem ta117 (t : TypeId) (v : Value) (xT : TypeId) (w : World) : (Instr.typeAssert (.iface t v) xT 117 true).run Try.prog w = .ok (.tuple #[if t = 117 then v else .pointer none, .bool (decide (t = 117))]) w := ta_gen Try.underlying117 tz117 t v xT w
@[go_sem] theorem tn117 (xT : TypeId) (w : World) : (Instr.typeAssert .nilIface xT 117 true).run Try.prog w = .ok (.tuple #[.pointer none, .bool false]) w := ta_nil Try.underlying117 tz117 xT w
@[go_sem] theorem tb117 (v : Value) (xT : TypeId) (w : World) : (Instr.typeAssert (.iface 117 v) xT 117 false).run Try.prog w = .ok v w := ta_bare Try.underlying117 v xT w
theorem tz120 (w : World) : (zeroValue 120).run Try.prog w = .ok (.pointer none) w := by kernel_rfl
@[go_sem] theorem ta120 (t : TypeId) (v : Value) (xT : TypeId) (w : World) : (Instr.typeAssert (.iface t v) xT 120 true).run Try.prog w = .ok (.tuple #[if t = 120 then v else .pointer none, .bool (decide (t = 120))]) w := ta_gen Try.underlying120 tz120 t v xT w
@[go_sem] theorem tn120 (xT : TypeId) (w : World) : (Instr.typeAssert .nilIface xT 120 true).run Try.prog w = .ok (.tuple #[.pointer none, .bool false]) w := ta_nil Try.underlying120 tz120 xT w
@[go_sem] theorem tb120 (v : Value) (xT : TypeId) (w : World) : (Instr.typeAssert (.iface 120 v) xT 120 false).run Try.prog w = .ok v w := ta_bare Try.underlying120 v xT w
theorem tz124 (w : World) : (zeroValue 124).run Try.prog w = .ok (.pointer none) w := by kernel_rfl
@[go_sem] theorem ta124 (t : TypeId) (v : Value) (xT : TypeId) (w : World) : (Instr.typeAssert (.iface t v) xT 124 true).run Try.prog w = .ok (.tuple #[if t = 124 then v else .pointer none, .bool (decide (t = 124))]) w := ta_gen Try.underlying124 tz124 t v xT w
@[go_sem] theorem tn124 (xT : TypeId) (w : World) : (Instr.typeAssert .nilIface xT 124 true).run Try.prog w = .ok (.tuple #[.pointer none, .bool false]) w := ta_nil Try.underlying124 tz124 xT w
@[go_sem] theorem tb124 (v : Value) (xT : TypeId) (w : World) : (Instr.typeAssert (.iface 124 v) xT 124 false).run Try.prog w = .ok v w := ta_bare Try.underlying124 v xT w
theorem tz127 (w : World) : (zeroValue 127).run Try.prog w = .ok (.pointer none) w := by kernel_rfl
@[go_sem] theorem ta127 (t : TypeId) (v : Value) (xT : TypeId) (w : World) : (Instr.typeAssert (.iface t v) xT 127 true).run Try.prog w = .ok (.tuple #[if t = 127 then v else .pointer none, .bool (decide (t = 127))]) w := ta_gen Try.underlying127 tz127 t v xT w
@[go_sem] theorem tn127 (xT : TypeId) (w : World) : (Instr.typeAssert .nilIface xT 127 true).run Try.prog w = .ok (.tuple #[.pointer none, .bool false]) w := ta_nil Try.underlying127 tz127 xT w
@[go_sem] theorem tb127 (v : Value) (xT : TypeId) (w : World) : (Instr.typeAssert (.iface 127 v) xT 127 false).run Try.prog w = .ok v w := ta_bare Try.underlying127 v xT w
theorem tz131 (w : World) : (zeroValue 131).run Try.prog w = .ok (.pointer none) w := by kernel_rfl
@[go_sem] theorem ta131 (t : TypeId) (v : Value) (xT : TypeId) (w : World) : (Instr.typeAssert (.iface t v) xT 131 true).run Try.prog w = .ok (.tuple #[if t = 131 then v else .pointer none, .bool (decide (t = 131))]) w := ta_gen Try.underlying131 tz131 t v xT w
@[go_sem] theorem tn131 (xT : TypeId) (w : World) : (Instr.typeAssert .nilIface xT 131 true).run Try.prog w = .ok (.tuple #[.pointer none, .bool false]) w := ta_nil Try.underlying131 tz131 xT w
@[go_sem] theorem tb131 (v : Value) (xT : TypeId) (w : World) : (Instr.typeAssert (.iface 131 v) xT 131 false).run Try.prog w = .ok v w := ta_bare Try.underlying131 v xT w

theorem eqIn_same (d : Nat) {P : Program} {t e : TypeId} {i : TypeInfo} (hu : P.underlying t = some (.pointer e)) (hi : P.info? e = some i) (a : Addr) (w : World) :
    (Op.equalIn (d + 1) t (.pointer (some a)) (.pointer (some a))).run P w = .ok true w := by
  by_cases h : i.size = 0
  · simp [Op.equalIn, run_underlying hu, sizeOf, typeInfo, hi, h]
  · simp [Op.equalIn, run_underlying hu, sizeOf, typeInfo, hi, h, run_sameAddr_same]
theorem eq_same {P : Program} {t e : TypeId} {i : TypeInfo} (hu : P.underlying t = some (.pointer e)) (hi : P.info? e = some i) (a : Addr) (w : World) :
    (Op.equal t (.pointer (some a)) (.pointer (some a))).run P w = .ok true w := eqIn_same 9999 hu hi a w
theorem eqIn_other (d : Nat) {P : Program} {t e : TypeId} {i : TypeInfo} (hu : P.underlying t = some (.pointer e)) (hi : P.info? e = some i) (hs : i.size ≠ 0) {a b : Addr} (w : World) {ca cb : Array Value} {ta tb : TypeId} (hne : a ≠ b) (ha : w.heap[a.block]? = some (.cells ca ta (0, 0))) (hb : w.heap[b.block]? = some (.cells cb tb (0, 0))) :
    (Op.equalIn (d + 1) t (.pointer (some a)) (.pointer (some b))).run P w = .ok false w := by
  simp [Op.equalIn, run_underlying hu, sizeOf, typeInfo, hi, hs, run_sameAddr_other w hne ha hb]
theorem eq_other {P : Program} {t e : TypeId} {i : TypeInfo} (hu : P.underlying t = some (.pointer e)) (hi : P.info? e = some i) (hs : i.size ≠ 0) {a b : Addr} (w : World) {ca cb : Array Value} {ta tb : TypeId} (hne : a ≠ b) (ha : w.heap[a.block]? = some (.cells ca ta (0, 0))) (hb : w.heap[b.block]? = some (.cells cb tb (0, 0))) :
    (Op.equal t (.pointer (some a)) (.pointer (some b))).run P w = .ok false w := eqIn_other 9999 hu hi hs w hne ha hb
theorem peq_same {P : Program} {t e : TypeId} (hu : P.underlying t = some (.pointer e)) (hi : (P.info? e).isSome = true) (a : Addr) (w : World) :
    (binOp .eql t (.pointer (some a)) (.pointer (some a))).run P w = .ok (.bool true) w := by
  obtain ⟨i, hi⟩ := Option.isSome_iff_exists.1 hi
  simp only [binOp]
  simp [eq_same hu hi]
theorem pne_same {P : Program} {t e : TypeId} (hu : P.underlying t = some (.pointer e)) (hi : (P.info? e).isSome = true) (a : Addr) (w : World) :
    (binOp .neq t (.pointer (some a)) (.pointer (some a))).run P w = .ok (.bool false) w := by
  obtain ⟨i, hi⟩ := Option.isSome_iff_exists.1 hi
  simp only [binOp]
  simp [eq_same hu hi]
theorem peq_other {P : Program} {t e : TypeId} (hu : P.underlying t = some (.pointer e)) (hi : (P.info? e).map (fun i => decide (i.size = 0)) = some false) {a b : Addr} (w : World) {ca cb : Array Value} {ta tb : TypeId} (hne : a ≠ b) (ha : w.heap[a.block]? = some (.cells ca ta (0, 0))) (hb : w.heap[b.block]? = some (.cells cb tb (0, 0))) :
    (binOp .eql t (.pointer (some a)) (.pointer (some b))).run P w = .ok (.bool false) w := by
  obtain ⟨i, hi, hs⟩ := Option.map_eq_some_iff.1 hi
  simp only [binOp]
  simp [eq_other hu hi (by simpa using hs) w hne ha hb]
theorem pne_other {P : Program} {t e : TypeId} (hu : P.underlying t = some (.pointer e)) (hi : (P.info? e).map (fun i => decide (i.size = 0)) = some false) {a b : Addr} (w : World) {ca cb : Array Value} {ta tb : TypeId} (hne : a ≠ b) (ha : w.heap[a.block]? = some (.cells ca ta (0, 0))) (hb : w.heap[b.block]? = some (.cells cb tb (0, 0))) :
    (binOp .neq t (.pointer (some a)) (.pointer (some b))).run P w = .ok (.bool true) w := by
  obtain ⟨i, hi, hs⟩ := Option.map_eq_some_iff.1 hi
  simp only [binOp]
  simp [eq_other hu hi (by simpa using hs) w hne ha hb]
@[go_sem] theorem pe43 (a : Addr) (w : World) : (binOp .eql 43 (.pointer (some a)) (.pointer (some a))).run Try.prog w = .ok (.bool true) w := peq_same Try.underlying43 (by kernel_rfl) a w
@[go_sem] theorem pn43 (a : Addr) (w : World) : (binOp .neq 43 (.pointer (some a)) (.pointer (some a))).run Try.prog w = .ok (.bool false) w := pne_same Try.underlying43 (by kernel_rfl) a w
@[go_sem] theorem pe44 (a : Addr) (w : World) : (binOp .eql 44 (.pointer (some a)) (.pointer (some a))).run Try.prog w = .ok (.bool true) w := peq_same Try.underlying44 (by kernel_rfl) a w
@[go_sem] theorem pn44 (a : Addr) (w : World) : (binOp .neq 44 (.pointer (some a)) (.pointer (some a))).run Try.prog w = .ok (.bool false) w := pne_same Try.underlying44 (by kernel_rfl) a w
@[go_sem] theorem pe45 (a : Addr) (w : World) : (binOp .eql 45 (.pointer (some a)) (.pointer (some a))).run Try.prog w = .ok (.bool true) w := peq_same Try.underlying45 (by kernel_rfl) a w
@[go_sem] theorem pn45 (a : Addr) (w : World) : (binOp .neq 45 (.pointer (some a)) (.pointer (some a))).run Try.prog w = .ok (.bool false) w := pne_same Try.underlying45 (by kernel_rfl) a w
@[go_sem] theorem pe53 (a : Addr) (w : World) : (binOp .eql 53 (.pointer (some a)) (.pointer (some a))).run Try.prog w = .ok (.bool true) w := peq_same Try.underlying53 (by kernel_rfl) a w
@[go_sem] theorem pn53 (a : Addr) (w : World) : (binOp .neq 53 (.pointer (some a)) (.pointer (some a))).run Try.prog w = .ok (.bool false) w := pne_same Try.underlying53 (by kernel_rfl) a w
@[go_sem] theorem pe57 (a : Addr) (w : World) : (binOp .eql 57 (.pointer (some a)) (.pointer (some a))).run Try.prog w = .ok (.bool true) w := peq_same Try.underlying57 (by kernel_rfl) a w
@[go_sem] theorem pn57 (a : Addr) (w : World) : (binOp .neq 57 (.pointer (some a)) (.pointer (some a))).run Try.prog w = .ok (.bool false) w := pne_same Try.underlying57 (by kernel_rfl) a w
@[go_sem] theorem pe68 (a : Addr) (w : World) : (binOp .eql 68 (.pointer (some a)) (.pointer (some a))).run Try.prog w = .ok (.bool true) w := peq_same Try.underlying68 (by kernel_rfl) a w
@[go_sem] theorem pn68 (a : Addr) (w : World) : (binOp .neq 68 (.pointer (some a)) (.pointer (some a))).run Try.prog w = .ok (.bool false) w := pne_same Try.underlying68 (by kernel_rfl) a w

theorem below_drewN {B : Nat} {a w : World} (h : Below B a w) (n : Nat) : Below B a (w.drewN n) := ⟨h.os, h.tape, h.output, h.size, h.block⟩
theorem bel2 {w w1 w2 : World} (h1 : Below w.heap.size w w1) (h2 : Below w1.heap.size w1 w2) : Below w.heap.size w w2 := h1.trans (h2.mono h1.size)
theorem bcell {W w1 : World} (hb : Below W.heap.size W w1) : (∀ b o, b < W.heap.size → w1.cell? ⟨b, o, none⟩ = W.cell? ⟨b, o, none⟩) ∧ (∀ b o, b < W.heap.size → w1.frozen? ⟨b, o, none⟩ = W.frozen? ⟨b, o, none⟩) :=
  ⟨fun b o h => hb.cell (p := ⟨b, o, none⟩) h, fun b o h => hb.frozen (p := ⟨b, o, none⟩) h⟩
theorem kept {W w1 : World} {b o : Nat} {v : Value} (hb : Below W.heap.size W w1) (h : W.cell? ⟨b, o, none⟩ = some v) : w1.cell? ⟨b, o, none⟩ = some v := by
  rw [hb.cell (p := ⟨b, o, none⟩) (World.block_lt_of_cell? _ _ h)]; exact h
theorem keptF {W w1 : World} {b o : Nat} {v : Value} (hb : Below W.heap.size W w1) (h : W.cell? ⟨b, o, none⟩ = some v) (hf : W.frozen? ⟨b, o, none⟩ = false) : w1.frozen? ⟨b, o, none⟩ = false := by
  rw [hb.frozen (p := ⟨b, o, none⟩) (World.block_lt_of_cell? _ _ h)]; exact hf
theorem kAlloc {w : World} {b o : Nat} {u : Value} {x : Obj} (h : w.cell? ⟨b, o, none⟩ = some u) : (w.alloc x).cell? ⟨b, o, none⟩ = some u := by
  rw [World.cell?_alloc_lt _ _ _ (World.block_lt_of_cell? _ _ h)]; exact h
theorem kSet {w : World} {b o B i : Nat} {u v : Value} (h : w.cell? ⟨b, o, none⟩ = some u) (hb : b ≠ B) : (w.setCell ⟨B, i, none⟩ v).cell? ⟨b, o, none⟩ = some u := by
  rw [World.cell?_setCell_other _ _ _ _ (by intro e; injection e with e1 _ _; exact hb (by omega))]; exact h
theorem kDrew {w : World} {a : Addr} {u : Value} (h : w.cell? a = some u) : w.drew.cell? a = some u := h
theorem ret_bool {a b : Bool} (h : a = b) : Ending.returned (.bool a) = .returned (.bool b) := by rw [h]
theorem ret_int {k : IntKind} {a b : Int} (h : a = b) : Ending.returned (.int k a) = .returned (.int k b) := by rw [h]
theorem wpList_run {P : Program} {ops : Array Oper} {rest : List Oper} {o : Oper} {a : Act} {w : World} {Q : Exit → Act → World → Prop} (hgd : o.guard = none) (v : Value) (w' : World)
    (hr : (execOp a.eval o).run P w = .ok (.value v) w') (h : wpList P ops Q rest (a.put o.dst v) w') : wpList P ops Q (o :: rest) a w :=
  wpList_plain hgd fun next hK => by
    show o.upon P a next Q ((execOp a.eval o).run P w)
    rw [hr]
    exact hK _ _ h
def zeroOf (P : Program) (t : TypeId) : Array Value := match P.info? t with | some i => (match i.zero with | some z => z.cells | none => #[]) | none => #[]

/-- Block g is the cells cs of element type t, none of them frozen. -/
def At (w : World) (g : Nat) (t : TypeId) (cs : Array Value) : Prop := w.heap[g]? = some (.cells cs t (0, 0))
theorem At.lt {w : World} {g : Nat} {t : TypeId} {cs : Array Value} (h : At w g t cs) : g < w.heap.size := by
  unfold At at h
  rcases Nat.lt_or_ge g w.heap.size with h1 | h1
  · exact h1
  · rw [Array.getElem?_eq_none h1] at h; cases h
theorem At.cell {w : World} {g : Nat} {t : TypeId} {cs : Array Value} (h : At w g t cs) (i : Nat) : w.cell? ⟨g, i, none⟩ = cs[i]? := cell_of_row w g i cs t (0, 0) h
theorem At.frozen {w : World} {g : Nat} {t : TypeId} {cs : Array Value} (h : At w g t cs) (i : Nat) : w.frozen? ⟨g, i, none⟩ = false := by
  unfold At at h; simp [World.frozen?, h]
theorem At.new (w : World) (t : TypeId) (cs : Array Value) : At (w.alloc (.cells cs t)) w.heap.size t cs := heap_alloc_new w _
theorem At.drew {w : World} {g : Nat} {t : TypeId} {cs : Array Value} (h : At w g t cs) : At w.drew g t cs := h
theorem At.drewN {w : World} {g : Nat} {t : TypeId} {cs : Array Value} (h : At w g t cs) (n : Nat) : At (w.drewN n) g t cs := h
theorem At.alloc {w : World} {g : Nat} {t : TypeId} {cs : Array Value} (h : At w g t cs) (o : Obj) : At (w.alloc o) g t cs := (Below.heap_alloc w o g h.lt).trans h
theorem At.set {w : World} {g : Nat} {t : TypeId} {cs : Array Value} (h : At w g t cs) (i : Nat) (u : Value) : At (w.setCell ⟨g, i, none⟩ u) g t (cs.setIfInBounds i u) := by
  unfold At at h ⊢
  simp [World.setCell, Array.getElem?_modify, h]
theorem At.far {w : World} {g : Nat} {t : TypeId} {cs : Array Value} (h : At w g t cs) {p : Addr} (hp : g ≠ p.block) (u : Value) : At (w.setCell p u) g t cs := (Below.heap_setCell w p u g hp).trans h
theorem At.below {w w' : World} {g B : Nat} {t : TypeId} {cs : Array Value} (h : At w g t cs) (hb : Below B w w') (hg : g < B) : At w' g t cs := (hb.block g hg).trans h
/-- What is told of a slice of integers that came in (as the guide's shell tells it). -/
def IsRow (k : IntKind) (w : World) (a : Option Addr) (len cap : Nat) (zs : List Int) : Prop :=
  (a = none ∧ len = 0 ∧ cap = 0 ∧ zs = []) ∨
  ∃ x, a = some x ∧ len ≤ cap ∧ cap ≤ maxLen ∧ zs.length = cap ∧ (∀ i, i < zs.length → w.cell? (x.add i) = some (.int k (zs.getD i 0))) ∧ ∀ n ∈ zs, (Lit.int k n).wf = true
def IsBools (w : World) (a : Option Addr) (len cap : Nat) (zs : List Bool) : Prop :=
  (a = none ∧ len = 0 ∧ cap = 0 ∧ zs = []) ∨
  ∃ x, a = some x ∧ len ≤ cap ∧ cap ≤ maxLen ∧ zs.length = cap ∧ (∀ i, i < zs.length → w.cell? (x.add i) = some (.bool (zs.getD i false)))
def IsStrs (w : World) (a : Option Addr) (len cap : Nat) (zs : List ByteArray) : Prop :=
  (a = none ∧ len = 0 ∧ cap = 0 ∧ zs = []) ∨
  ∃ x, a = some x ∧ len ≤ cap ∧ cap ≤ maxLen ∧ zs.length = cap ∧ (∀ i, i < zs.length → w.cell? (x.add i) = some (.string (zs.getD i ByteArray.empty))) ∧ ∀ n ∈ zs, n.size ≤ maxLen
theorem wf_u8 {a : Int} (h : (Lit.int .u8 a).wf = true) : 0 ≤ a ∧ a ≤ 255 := by
  have hmin : IntKind.u8.min = 0 := rfl
  have hmax : IntKind.u8.max = 255 := rfl
  simp only [Lit.wf, Bool.and_eq_true, decide_eq_true_eq] at h
  exact ⟨by omega, by omega⟩
theorem wf_u16 {a : Int} (h : (Lit.int .u16 a).wf = true) : 0 ≤ a ∧ a ≤ 65535 := by
  have hmin : IntKind.u16.min = 0 := rfl
  have hmax : IntKind.u16.max = 65535 := rfl
  simp only [Lit.wf, Bool.and_eq_true, decide_eq_true_eq] at h
  exact ⟨by omega, by omega⟩
theorem wf_u32 {a : Int} (h : (Lit.int .u32 a).wf = true) : 0 ≤ a ∧ a ≤ 4294967295 := by
  have hmin : IntKind.u32.min = 0 := rfl
  have hmax : IntKind.u32.max = 4294967295 := rfl
  simp only [Lit.wf, Bool.and_eq_true, decide_eq_true_eq] at h
  exact ⟨by omega, by omega⟩
theorem wf_i8 {a : Int} (h : (Lit.int .i8 a).wf = true) : -128 ≤ a ∧ a ≤ 127 := by
  have hmin : IntKind.i8.min = -128 := rfl
  have hmax : IntKind.i8.max = 127 := rfl
  simp only [Lit.wf, Bool.and_eq_true, decide_eq_true_eq] at h
  exact ⟨by omega, by omega⟩
theorem wf_i32 {a : Int} (h : (Lit.int .i32 a).wf = true) : -2147483648 ≤ a ∧ a ≤ 2147483647 := by
  have hmin : IntKind.i32.min = -2147483648 := rfl
  have hmax : IntKind.i32.max = 2147483647 := rfl
  simp only [Lit.wf, Bool.and_eq_true, decide_eq_true_eq] at h
  exact ⟨by omega, by omega⟩
theorem wf_i64 {a : Int} (h : (Lit.int .i64 a).wf = true) : -9223372036854775808 ≤ a ∧ a ≤ 9223372036854775807 := by
  have hmin : IntKind.i64.min = -9223372036854775808 := rfl
  have hmax : IntKind.i64.max = 9223372036854775807 := rfl
  simp only [Lit.wf, Bool.and_eq_true, decide_eq_true_eq] at h
  exact ⟨by omega, by omega⟩
theorem wf_u64 {a : Int} (h : (Lit.int .u64 a).wf = true) : 0 ≤ a ∧ a ≤ 18446744073709551615 := by
  have hmin : IntKind.u64.min = 0 := rfl
  have hmax : IntKind.u64.max = 18446744073709551615 := rfl
  simp only [Lit.wf, Bool.and_eq_true, decide_eq_true_eq] at h
  exact ⟨by omega, by omega⟩
end Go.Proofs.YtonhekaakddneaaRRR
