/- Proved here: closed facts on this program that the walks use: what a type assertion to each pointer type answers, what a field of a struct value is; and small lemmas on worlds. No condition. -/
import Derived.Test.YtcbbnkccfbgahaaProg
import Derived.WalkKit
import Derived.Lib.Hide
import Derived.Below
import Derived.Laws.Rows
import Derived.Deep.Draws
import Derived.LaidEql
namespace Go.Proofs.Ytcbbnkccfbgahaa
open Go.RowKit
set_option linter.unusedVariables false
set_option linter.unusedSimpArgs false

theorem ta_gen {P : Program} {c e : TypeId} (hu : P.underlying c = some (.pointer e)) (hz : ∀ w, (zeroValue c).run P w = .ok (.pointer none) w) (t : TypeId) (v : Value) (xT : TypeId) (w : World) :
    (Instr.typeAssert (.iface t v) xT c true).run P w = .ok (.tuple #[if t = c then v else .pointer none, .bool (decide (t = c))]) w := by
  by_cases h : t = c
  · subst h
    simp [Instr.typeAssert, run_underlying hu]
  · simp [Instr.typeAssert, run_underlying hu, h, hz]
theorem ta_nil {P : Program} {c e : TypeId} (hu : P.underlying c = some (.pointer e)) (hz : ∀ w, (zeroValue c).run P w = .ok (.pointer none) w) (xT : TypeId) (w : World) :
    (Instr.typeAssert .nilIface xT c true).run P w = .ok (.tuple #[.pointer none, .bool false]) w := by
  simp [Instr.typeAssert, run_underlying hu, hz]
theorem ta_bare {P : Program} {c e : TypeId} (hu : P.underlying c = some (.pointer e)) (v : Value) (xT : TypeId) (w : World) :
    (Instr.typeAssert (.iface c v) xT c false).run P w = .ok v w := by
  simp [Instr.typeAssert, run_underlying hu]
theorem tz48 (w : World) : (zeroValue 48).run Try.prog w = .ok (.pointer none) w := by kernel_rfl
@[go_sem] theorem ta48 (t : TypeId) (v : Value) (xT : TypeId) (w : World) : (Instr.typeAssert (.iface t v) xT 48 true).run Try.prog w = .ok (.tuple #[if t = 48 then v else .pointer none, .bool (decide (t = 48))]) w := ta_gen Try.underlying48 tz48 t v xT w
@[go_sem] theorem tn48 (xT : TypeId) (w : World) : (Instr.typeAssert .nilIface xT 48 true).run Try.prog w = .ok (.tuple #[.pointer none, .bool false]) w := ta_nil Try.underlying48 tz48 xT w
@[go_sem] theorem tb48 (v : Value) (xT : TypeId) (w : World) : (Instr.typeAssert (.iface 48 v) xT 48 false).run Try.prog w = .ok v w := ta_bare Try.underlying48 v xT w
theorem tz87 (w : World) : (zeroValue 87).run Try.prog w = .ok (.pointer none) w := by kernel_rfl
@[go_sem] theorem ta87 (t : TypeId) (v : Value) (xT : TypeId) (w : World) : (Instr.typeAssert (.iface t v) xT 87 true).run Try.prog w = .ok (.tuple #[if t = 87 then v else .pointer none, .bool (decide (t = 87))]) w := ta_gen Try.underlying87 tz87 t v xT w
@[go_sem] theorem tn87 (xT : TypeId) (w : World) : (Instr.typeAssert .nilIface xT 87 true).run Try.prog w = .ok (.tuple #[.pointer none, .bool false]) w := ta_nil Try.underlying87 tz87 xT w
@[go_sem] theorem tb87 (v : Value) (xT : TypeId) (w : World) : (Instr.typeAssert (.iface 87 v) xT 87 false).run Try.prog w = .ok v w := ta_bare Try.underlying87 v xT w
theorem tz91 (w : World) : (zeroValue 91).run Try.prog w = .ok (.pointer none) w := by kernel_rfl
@[go_sem] theorem ta91 (t : TypeId) (v : Value) (xT : TypeId) (w : World) : (Instr.typeAssert (.iface t v) xT 91 true).run Try.prog w = .ok (.tuple #[if t = 91 then v else .pointer none, .bool (decide (t = 91))]) w := ta_gen Try.underlying91 tz91 t v xT w
@[go_sem] theorem tn91 (xT : TypeId) (w : World) : (Instr.typeAssert .nilIface xT 91 true).run Try.prog w = .ok (.tuple #[.pointer none, .bool false]) w := ta_nil Try.underlying91 tz91 xT w
@[go_sem] theorem tb91 (v : Value) (xT : TypeId) (w : World) : (Instr.typeAssert (.iface 91 v) xT 91 false).run Try.prog w = .ok v w := ta_bare Try.underlying91 v xT w
theorem tz94 (w : World) : (zeroValue 94).run Try.prog w = .ok (.pointer none) w := by kernel_rfl
@[go_sem] theorem ta94 (t : TypeId) (v : Value) (xT : TypeId) (w : World) : (Instr.typeAssert (.iface t v) xT 94 true).run Try.prog w = .ok (.tuple #[if t = 94 then v else .pointer none, .bool (decide (t = 94))]) w := ta_gen Try.underlying94 tz94 t v xT w
@[go_sem] theorem tn94 (xT : TypeId) (w : World) : (Instr.typeAssert .nilIface xT 94 true).run Try.prog w = .ok (.tuple #[.pointer none, .bool false]) w := ta_nil Try.underlying94 tz94 xT w
@[go_sem] theorem tb94 (v : Value) (xT : TypeId) (w : World) : (Instr.typeAssert (.iface 94 v) xT 94 false).run Try.prog w = .ok v w := ta_bare Try.underlying94 v xT w
theorem tz96 (w : World) : (zeroValue 96).run Try.prog w = .ok (.pointer none) w := by kernel_rfl
@[go_sem] theorem ta96 (t : TypeId) (v : Value) (xT : TypeId) (w : World) : (Instr.typeAssert (.iface t v) xT 96 true).run Try.prog w = .ok (.tuple #[if t = 96 then v else .pointer none, .bool (decide (t = 96))]) w := ta_gen Try.underlying96 tz96 t v xT w
@[go_sem] theorem tn96 (xT : TypeId) (w : World) : (Instr.typeAssert .nilIface xT 96 true).run Try.prog w = .ok (.tuple #[.pointer none, .bool false]) w := ta_nil Try.underlying96 tz96 xT w
@[go_sem] theorem tb96 (v : Value) (xT : TypeId) (w : World) : (Instr.typeAssert (.iface 96 v) xT 96 false).run Try.prog w = .ok v w := ta_bare Try.underlying96 v xT w
theorem tz100 (w : World) : (zeroValue 100).run Try.prog w = .ok (.pointer none) w := by kernel_rfl
@[go_sem] theorem ta100 (t : TypeId) (v : Value) (xT : TypeId) (w : World) : (Instr.typeAssert (.iface t v) xT 100 true).run Try.prog w = .ok (.tuple #[if t = 100 then v else .pointer none, .bool (decide (t = 100))]) w := ta_gen Try.underlying100 tz100 t v xT w
@[go_sem] theorem tn100 (xT : TypeId) (w : World) : (Instr.typeAssert .nilIface xT 100 true).run Try.prog w = .ok (.tuple #[.pointer none, .bool false]) w := ta_nil Try.underlying100 tz100 xT w
@[go_sem] theorem tb100 (v : Value) (xT : TypeId) (w : World) : (Instr.typeAssert (.iface 100 v) xT 100 false).run Try.prog w = .ok v w := ta_bare Try.underlying100 v xT w
theorem tz101 (w : World) : (zeroValue 101).run Try.prog w = .ok (.pointer none) w := by kernel_rfl
@[go_sem] theorem ta101 (t : TypeId) (v : Value) (xT : TypeId) (w : World) : (Instr.typeAssert (.iface t v) xT 101 true).run Try.prog w = .ok (.tuple #[if t = 101 then v else .pointer none, .bool (decide (t = 101))]) w := ta_gen Try.underlying101 tz101 t v xT w
@[go_sem] theorem tn101 (xT : TypeId) (w : World) : (Instr.typeAssert .nilIface xT 101 true).run Try.prog w = .ok (.tuple #[.pointer none, .bool false]) w := ta_nil Try.underlying101 tz101 xT w
@[go_sem] theorem tb101 (v : Value) (xT : TypeId) (w : World) : (Instr.typeAssert (.iface 101 v) xT 101 false).run Try.prog w = .ok v w := ta_bare Try.underlying101 v xT w
theorem tz102 (w : World) : (zeroValue 102).run Try.prog w = .ok (.pointer none) w := by kernel_rfl
@[go_sem] theorem ta102 (t : TypeId) (v : Value) (xT : TypeId) (w : World) : (Instr.typeAssert (.iface t v) xT 102 true).run Try.prog w = .ok (.tuple #[if t = 102 then v else .pointer none, .bool (decide (t = 102))]) w := ta_gen Try.underlying102 tz102 t v xT w
@[go_sem] theorem tn102 (xT : TypeId) (w : World) : (Instr.typeAssert .nilIface xT 102 true).run Try.prog w = .ok (.tuple #[.pointer none, .bool false]) w := ta_nil Try.underlying102 tz102 xT w
@[go_sem] theorem tb102 (v : Value) (xT : TypeId) (w : World) : (Instr.typeAssert (.iface 102 v) xT 102 false).run Try.prog w = .ok v w := ta_bare Try.underlying102 v xT w
theorem tz103 (w : World) : (zeroValue 103).run Try.prog w = .ok (.pointer none) w := by kernel_rfl
@[go_sem] theorem ta103 (t : TypeId) (v : Value) (xT : TypeId) (w : World) : (Instr.typeAssert (.iface t v) xT 103 true).run Try.prog w = .ok (.tuple #[if t = 103 then v else .pointer none, .bool (decide (t = 103))]) w := ta_gen Try.underlying103 tz103 t v xT w
@[go_sem] theorem tn103 (xT : TypeId) (w : World) : (Instr.typeAssert .nilIface xT 103 true).run Try.prog w = .ok (.tuple #[.pointer none, .bool false]) w := ta_nil Try.underlying103 tz103 xT w
@[go_sem] theorem tb103 (v : Value) (xT : TypeId) (w : World) : (Instr.typeAssert (.iface 103 v) xT 103 false).run Try.prog w = .ok v w := ta_bare Try.underlying103 v xT w
theorem tz104 (w : World) : (zeroValue 104).run Try.prog w = .ok (.pointer none) w := by kernel_rfl
@[go_sem] theorem ta104 (t : TypeId) (v : Value) (xT : TypeId) (w : World) : (Instr.typeAssert (.iface t v) xT 104 true).run Try.prog w = .ok (.tuple #[if t = 104 then v else .pointer none, .bool (decide (t = 104))]) w := ta_gen Try.underlying104 tz104 t v xT w
@[go_sem] theorem tn104 (xT : TypeId) (w : World) : (Instr.typeAssert .nilIface xT 104 true).run Try.prog w = .ok (.tuple #[.pointer none, .bool false]) w := ta_nil Try.underlying104 tz104 xT w
@[go_sem] theorem tb104 (v : Value) (xT : TypeId) (w : World) : (Instr.typeAssert (.iface 104 v) xT 104 false).run Try.prog w = .ok v w := ta_bare Try.underlying104 v xT w
theorem tz105 (w : World) : (zeroValue 105).run Try.prog w = .ok (.pointer none) w := by kernel_rfl
@[go_sem] theorem ta105 (t : TypeId) (v : Value) (xT : TypeId) (w : World) : (Instr.typeAssert (.iface t v) xT 105 true).run Try.prog w = .ok (.tuple #[if t = 105 then v else .pointer none, .bool (decide (t = 105))]) w := ta_gen Try.underlying105 tz105 t v xT w
@[go_sem] theorem tn105 (xT : TypeId) (w : World) : (Instr.typeAssert .nilIface xT 105 true).run Try.prog w = .ok (.tuple #[.pointer none, .bool false]) w := ta_nil Try.underlying105 tz105 xT w
@[go_sem] theorem tb105 (v : Value) (xT : TypeId) (w : World) : (Instr.typeAssert (.iface 105 v) xT 105 false).run Try.prog w = .ok v w := ta_bare Try.underlying105 v xT w
theorem tz106 (w : World) : (zeroValue 106).run Try.prog w = .ok (.pointer none) w := by kernel_rfl
@[go_sem] theorem ta106 (t : TypeId) (v : Value) (xT : TypeId) (w : World) : (Instr.typeAssert (.iface t v) xT 106 true).run Try.prog w = .ok (.tuple #[if t = 106 then v else .pointer none, .bool (decide (t = 106))]) w := ta_gen Try.underlying106 tz106 t v xT w
@[go_sem] theorem tn106 (xT : TypeId) (w : World) : (Instr.typeAssert .nilIface xT 106 true).run Try.prog w = .ok (.tuple #[.pointer none, .bool false]) w := ta_nil Try.underlying106 tz106 xT w
@[go_sem] theorem tb106 (v : Value) (xT : TypeId) (w : World) : (Instr.typeAssert (.iface 106 v) xT 106 false).run Try.prog w = .ok v w := ta_bare Try.underlying106 v xT w
theorem tz107 (w : World) : (zeroValue 107).run Try.prog w = .ok (.pointer none) w := by kernel_rfl
@[go_sem] theorem ta107 (t : TypeId) (v : Value) (xT : TypeId) (w : World) : (Instr.typeAssert (.iface t v) xT 107 true).run Try.prog w = .ok (.tuple #[if t = 107 then v else .pointer none, .bool (decide (t = 107))]) w := ta_gen Try.underlying107 tz107 t v xT w
@[go_sem] theorem tn107 (xT : TypeId) (w : World) : (Instr.typeAssert .nilIface xT 107 true).run Try.prog w = .ok (.tuple #[.pointer none, .bool false]) w := ta_nil Try.underlying107 tz107 xT w
@[go_sem] theorem tb107 (v : Value) (xT : TypeId) (w : World) : (Instr.typeAssert (.iface 107 v) xT 107 false).run Try.prog w = .ok v w := ta_bare Try.underlying107 v xT w
theorem tz108 (w : World) : (zeroValue 108).run Try.prog w = .ok (.pointer none) w := by kernel_rfl
@[go_sem] theorem ta108 (t : TypeId) (v : Value) (xT : TypeId) (w : World) : (Instr.typeAssert (.iface t v) xT 108 true).run Try.prog w = .ok (.tuple #[if t = 108 then v else .pointer none, .bool (decide (t = 108))]) w := ta_gen Try.underlying108 tz108 t v xT w
@[go_sem] theorem tn108 (xT : TypeId) (w : World) : (Instr.typeAssert .nilIface xT 108 true).run Try.prog w = .ok (.tuple #[.pointer none, .bool false]) w := ta_nil Try.underlying108 tz108 xT w
@[go_sem] theorem tb108 (v : Value) (xT : TypeId) (w : World) : (Instr.typeAssert (.iface 108 v) xT 108 false).run Try.prog w = .ok v w := ta_bare Try.underlying108 v xT w
theorem tz113 (w : World) : (zeroValue 113).run Try.prog w = .ok (.pointer none) w := by kernel_rfl
@[go_sem] theorem ta113 (t : TypeId) (v : Value) (xT : TypeId) (w : World) : (Instr.typeAssert (.iface t v) xT 113 true).run Try.prog w = .ok (.tuple #[if t = 113 then v else .pointer none, .bool (decide (t = 113))]) w := ta_gen Try.underlying113 tz113 t v xT w
@[go_sem] theorem tn113 (xT : TypeId) (w : World) : (Instr.typeAssert .nilIface xT 113 true).run Try.prog w = .ok (.tuple #[.pointer none, .bool false]) w := ta_nil Try.underlying113 tz113 xT w
@[go_sem] theorem tb113 (v : Value) (xT : TypeId) (w : World) : (Instr.typeAssert (.iface 113 v) xT 113 false).run Try.prog w = .ok v w := ta_bare Try.underlying113 v xT w
theorem tz118 (w : World) : (zeroValue 118).run Try.prog w = .ok (.pointer none) w := by kernel_rfl
@[go_sem] theorem ta118 (t : TypeId) (v : Value) (xT : TypeId) (w : World) : (Instr.typeAssert (.iface t v) xT 118 true).run Try.prog w = .ok (.tuple #[if t = 118 then v else .pointer none, .bool (decide (t = 118))]) w := ta_gen Try.underlying118 tz118 t v xT w
@[go_sem] theorem tn118 (xT : TypeId) (w : World) : (Instr.typeAssert .nilIface xT 118 true).run Try.prog w = .ok (.tuple #[.pointer none, .bool false]) w := ta_nil Try.underlying118 tz118 xT w
@[go_sem] theorem tb118 (v : Value) (xT : TypeId) (w : World) : (Instr.typeAssert (.iface 118 v) xT 118 false).run Try.prog w = .ok v w := ta_bare Try.underlying118 v xT w
theorem tz123 (w : World) : (zeroValue 123).run Try.prog w = .ok (.pointer none) w := by kernel_rfl
@[go_sem] theorem ta123 (t : TypeId) (v : Value) (xT : TypeId) (w : World) : (Instr.typeAssert (.iface t v) xT 123 true).run Try.prog w = .ok (.tuple #[if t = 123 then v else .pointer none, .bool (decide (t = 123))]) w := ta_gen Try.underlying123 tz123 t v xT w
@[go_sem] theorem tn123 (xT : TypeId) (w : World) : (Instr.typeAssert .nilIface xT 123 true).run Try.prog w = .ok (.tuple #[.pointer none, .bool false]) w := ta_nil Try.underlying123 tz123 xT w
@[go_sem] theorem tb123 (v : Value) (xT : TypeId) (w : World) : (Instr.typeAssert (.iface 123 v) xT 123 false).run Try.prog w = .ok v w := ta_bare Try.underlying123 v xT w
theorem tz134 (w : World) : (zeroValue 134).run Try.prog w = .ok (.pointer none) w := by kernel_rfl
@[go_sem] theorem ta134 (t : TypeId) (v : Value) (xT : TypeId) (w : World) : (Instr.typeAssert (.iface t v) xT 134 true).run Try.prog w = .ok (.tuple #[if t = 134 then v else .pointer none, .bool (decide (t = 134))]) w := ta_gen Try.underlying134 tz134 t v xT w
@[go_sem] theorem tn134 (xT : TypeId) (w : World) : (Instr.typeAssert .nilIface xT 134 true).run Try.prog w = .ok (.tuple #[.pointer none, .bool false]) w := ta_nil Try.underlying134 tz134 xT w
@[go_sem] theorem tb134 (v : Value) (xT : TypeId) (w : World) : (Instr.typeAssert (.iface 134 v) xT 134 false).run Try.prog w = .ok v w := ta_bare Try.underlying134 v xT w
theorem tz139 (w : World) : (zeroValue 139).run Try.prog w = .ok (.pointer none) w := by kernel_rfl
@[go_sem] theorem ta139 (t : TypeId) (v : Value) (xT : TypeId) (w : World) : (Instr.typeAssert (.iface t v) xT 139 true).run Try.prog w = .ok (.tuple #[if t = 139 then v else .pointer none, .bool (decide (t = 139))]) w := ta_gen Try.underlying139 tz139 t v xT w
@[go_sem] theorem tn139 (xT : TypeId) (w : World) : (Instr.typeAssert .nilIface xT 139 true).run Try.prog w = .ok (.tuple #[.pointer none, .bool false]) w := ta_nil Try.underlying139 tz139 xT w
@[go_sem] theorem tb139 (v : Value) (xT : TypeId) (w : World) : (Instr.typeAssert (.iface 139 v) xT 139 false).run Try.prog w = .ok v w := ta_bare Try.underlying139 v xT w
theorem tz145 (w : World) : (zeroValue 145).run Try.prog w = .ok (.pointer none) w := by kernel_rfl
@[go_sem] theorem ta145 (t : TypeId) (v : Value) (xT : TypeId) (w : World) : (Instr.typeAssert (.iface t v) xT 145 true).run Try.prog w = .ok (.tuple #[if t = 145 then v else .pointer none, .bool (decide (t = 145))]) w := ta_gen Try.underlying145 tz145 t v xT w
@[go_sem] theorem tn145 (xT : TypeId) (w : World) : (Instr.typeAssert .nilIface xT 145 true).run Try.prog w = .ok (.tuple #[.pointer none, .bool false]) w := ta_nil Try.underlying145 tz145 xT w
@[go_sem] theorem tb145 (v : Value) (xT : TypeId) (w : World) : (Instr.typeAssert (.iface 145 v) xT 145 false).run Try.prog w = .ok v w := ta_bare Try.underlying145 v xT w
theorem tz150 (w : World) : (zeroValue 150).run Try.prog w = .ok (.pointer none) w := by kernel_rfl
@[go_sem] theorem ta150 (t : TypeId) (v : Value) (xT : TypeId) (w : World) : (Instr.typeAssert (.iface t v) xT 150 true).run Try.prog w = .ok (.tuple #[if t = 150 then v else .pointer none, .bool (decide (t = 150))]) w := ta_gen Try.underlying150 tz150 t v xT w
@[go_sem] theorem tn150 (xT : TypeId) (w : World) : (Instr.typeAssert .nilIface xT 150 true).run Try.prog w = .ok (.tuple #[.pointer none, .bool false]) w := ta_nil Try.underlying150 tz150 xT w
@[go_sem] theorem tb150 (v : Value) (xT : TypeId) (w : World) : (Instr.typeAssert (.iface 150 v) xT 150 false).run Try.prog w = .ok v w := ta_bare Try.underlying150 v xT w
theorem tz154 (w : World) : (zeroValue 154).run Try.prog w = .ok (.pointer none) w := by kernel_rfl
@[go_sem] theorem ta154 (t : TypeId) (v : Value) (xT : TypeId) (w : World) : (Instr.typeAssert (.iface t v) xT 154 true).run Try.prog w = .ok (.tuple #[if t = 154 then v else .pointer none, .bool (decide (t = 154))]) w := ta_gen Try.underlying154 tz154 t v xT w
@[go_sem] theorem tn154 (xT : TypeId) (w : World) : (Instr.typeAssert .nilIface xT 154 true).run Try.prog w = .ok (.tuple #[.pointer none, .bool false]) w := ta_nil Try.underlying154 tz154 xT w
@[go_sem] theorem tb154 (v : Value) (xT : TypeId) (w : World) : (Instr.typeAssert (.iface 154 v) xT 154 false).run Try.prog w = .ok v w := ta_bare Try.underlying154 v xT w
theorem tz159 (w : World) : (zeroValue 159).run Try.prog w = .ok (.pointer none) w := by kernel_rfl
@[go_sem] theorem ta159 (t : TypeId) (v : Value) (xT : TypeId) (w : World) : (Instr.typeAssert (.iface t v) xT 159 true).run Try.prog w = .ok (.tuple #[if t = 159 then v else .pointer none, .bool (decide (t = 159))]) w := ta_gen Try.underlying159 tz159 t v xT w
@[go_sem] theorem tn159 (xT : TypeId) (w : World) : (Instr.typeAssert .nilIface xT 159 true).run Try.prog w = .ok (.tuple #[.pointer none, .bool false]) w := ta_nil Try.underlying159 tz159 xT w
@[go_sem] theorem tb159 (v : Value) (xT : TypeId) (w : World) : (Instr.typeAssert (.iface 159 v) xT 159 false).run Try.prog w = .ok v w := ta_bare Try.underlying159 v xT w
theorem tz163 (w : World) : (zeroValue 163).run Try.prog w = .ok (.pointer none) w := by kernel_rfl
@[go_sem] theorem ta163 (t : TypeId) (v : Value) (xT : TypeId) (w : World) : (Instr.typeAssert (.iface t v) xT 163 true).run Try.prog w = .ok (.tuple #[if t = 163 then v else .pointer none, .bool (decide (t = 163))]) w := ta_gen Try.underlying163 tz163 t v xT w
@[go_sem] theorem tn163 (xT : TypeId) (w : World) : (Instr.typeAssert .nilIface xT 163 true).run Try.prog w = .ok (.tuple #[.pointer none, .bool false]) w := ta_nil Try.underlying163 tz163 xT w
@[go_sem] theorem tb163 (v : Value) (xT : TypeId) (w : World) : (Instr.typeAssert (.iface 163 v) xT 163 false).run Try.prog w = .ok v w := ta_bare Try.underlying163 v xT w
theorem tz188 (w : World) : (zeroValue 188).run Try.prog w = .ok (.pointer none) w := by kernel_rfl
@[go_sem] theorem ta188 (t : TypeId) (v : Value) (xT : TypeId) (w : World) : (Instr.typeAssert (.iface t v) xT 188 true).run Try.prog w = .ok (.tuple #[if t = 188 then v else .pointer none, .bool (decide (t = 188))]) w := ta_gen Try.underlying188 tz188 t v xT w
@[go_sem] theorem tn188 (xT : TypeId) (w : World) : (Instr.typeAssert .nilIface xT 188 true).run Try.prog w = .ok (.tuple #[.pointer none, .bool false]) w := ta_nil Try.underlying188 tz188 xT w
@[go_sem] theorem tb188 (v : Value) (xT : TypeId) (w : World) : (Instr.typeAssert (.iface 188 v) xT 188 false).run Try.prog w = .ok v w := ta_bare Try.underlying188 v xT w
theorem tz192 (w : World) : (zeroValue 192).run Try.prog w = .ok (.pointer none) w := by kernel_rfl
@[go_sem] theorem ta192 (t : TypeId) (v : Value) (xT : TypeId) (w : World) : (Instr.typeAssert (.iface t v) xT 192 true).run Try.prog w = .ok (.tuple #[if t = 192 then v else .pointer none, .bool (decide (t = 192))]) w := ta_gen Try.underlying192 tz192 t v xT w
@[go_sem] theorem tn192 (xT : TypeId) (w : World) : (Instr.typeAssert .nilIface xT 192 true).run Try.prog w = .ok (.tuple #[.pointer none, .bool false]) w := ta_nil Try.underlying192 tz192 xT w
@[go_sem] theorem tb192 (v : Value) (xT : TypeId) (w : World) : (Instr.typeAssert (.iface 192 v) xT 192 false).run Try.prog w = .ok v w := ta_bare Try.underlying192 v xT w
theorem tz196 (w : World) : (zeroValue 196).run Try.prog w = .ok (.pointer none) w := by kernel_rfl
@[go_sem] theorem ta196 (t : TypeId) (v : Value) (xT : TypeId) (w : World) : (Instr.typeAssert (.iface t v) xT 196 true).run Try.prog w = .ok (.tuple #[if t = 196 then v else .pointer none, .bool (decide (t = 196))]) w := ta_gen Try.underlying196 tz196 t v xT w
@[go_sem] theorem tn196 (xT : TypeId) (w : World) : (Instr.typeAssert .nilIface xT 196 true).run Try.prog w = .ok (.tuple #[.pointer none, .bool false]) w := ta_nil Try.underlying196 tz196 xT w
@[go_sem] theorem tb196 (v : Value) (xT : TypeId) (w : World) : (Instr.typeAssert (.iface 196 v) xT 196 false).run Try.prog w = .ok v w := ta_bare Try.underlying196 v xT w
theorem tz203 (w : World) : (zeroValue 203).run Try.prog w = .ok (.pointer none) w := by kernel_rfl
@[go_sem] theorem ta203 (t : TypeId) (v : Value) (xT : TypeId) (w : World) : (Instr.typeAssert (.iface t v) xT 203 true).run Try.prog w = .ok (.tuple #[if t = 203 then v else .pointer none, .bool (decide (t = 203))]) w := ta_gen Try.underlying203 tz203 t v xT w
@[go_sem] theorem tn203 (xT : TypeId) (w : World) : (Instr.typeAssert .nilIface xT 203 true).run Try.prog w = .ok (.tuple #[.pointer none, .bool false]) w := ta_nil Try.underlying203 tz203 xT w
@[go_sem] theorem tb203 (v : Value) (xT : TypeId) (w : World) : (Instr.typeAssert (.iface 203 v) xT 203 false).run Try.prog w = .ok v w := ta_bare Try.underlying203 v xT w
theorem tz208 (w : World) : (zeroValue 208).run Try.prog w = .ok (.pointer none) w := by kernel_rfl
@[go_sem] theorem ta208 (t : TypeId) (v : Value) (xT : TypeId) (w : World) : (Instr.typeAssert (.iface t v) xT 208 true).run Try.prog w = .ok (.tuple #[if t = 208 then v else .pointer none, .bool (decide (t = 208))]) w := ta_gen Try.underlying208 tz208 t v xT w
@[go_sem] theorem tn208 (xT : TypeId) (w : World) : (Instr.typeAssert .nilIface xT 208 true).run Try.prog w = .ok (.tuple #[.pointer none, .bool false]) w := ta_nil Try.underlying208 tz208 xT w
@[go_sem] theorem tb208 (v : Value) (xT : TypeId) (w : World) : (Instr.typeAssert (.iface 208 v) xT 208 false).run Try.prog w = .ok v w := ta_bare Try.underlying208 v xT w
theorem tz209 (w : World) : (zeroValue 209).run Try.prog w = .ok (.pointer none) w := by kernel_rfl
@[go_sem] theorem ta209 (t : TypeId) (v : Value) (xT : TypeId) (w : World) : (Instr.typeAssert (.iface t v) xT 209 true).run Try.prog w = .ok (.tuple #[if t = 209 then v else .pointer none, .bool (decide (t = 209))]) w := ta_gen Try.underlying209 tz209 t v xT w
@[go_sem] theorem tn209 (xT : TypeId) (w : World) : (Instr.typeAssert .nilIface xT 209 true).run Try.prog w = .ok (.tuple #[.pointer none, .bool false]) w := ta_nil Try.underlying209 tz209 xT w
@[go_sem] theorem tb209 (v : Value) (xT : TypeId) (w : World) : (Instr.typeAssert (.iface 209 v) xT 209 false).run Try.prog w = .ok v w := ta_bare Try.underlying209 v xT w
theorem tz210 (w : World) : (zeroValue 210).run Try.prog w = .ok (.pointer none) w := by kernel_rfl
@[go_sem] theorem ta210 (t : TypeId) (v : Value) (xT : TypeId) (w : World) : (Instr.typeAssert (.iface t v) xT 210 true).run Try.prog w = .ok (.tuple #[if t = 210 then v else .pointer none, .bool (decide (t = 210))]) w := ta_gen Try.underlying210 tz210 t v xT w
@[go_sem] theorem tn210 (xT : TypeId) (w : World) : (Instr.typeAssert .nilIface xT 210 true).run Try.prog w = .ok (.tuple #[.pointer none, .bool false]) w := ta_nil Try.underlying210 tz210 xT w
@[go_sem] theorem tb210 (v : Value) (xT : TypeId) (w : World) : (Instr.typeAssert (.iface 210 v) xT 210 false).run Try.prog w = .ok v w := ta_bare Try.underlying210 v xT w
theorem tz211 (w : World) : (zeroValue 211).run Try.prog w = .ok (.pointer none) w := by kernel_rfl
@[go_sem] theorem ta211 (t : TypeId) (v : Value) (xT : TypeId) (w : World) : (Instr.typeAssert (.iface t v) xT 211 true).run Try.prog w = .ok (.tuple #[if t = 211 then v else .pointer none, .bool (decide (t = 211))]) w := ta_gen Try.underlying211 tz211 t v xT w
@[go_sem] theorem tn211 (xT : TypeId) (w : World) : (Instr.typeAssert .nilIface xT 211 true).run Try.prog w = .ok (.tuple #[.pointer none, .bool false]) w := ta_nil Try.underlying211 tz211 xT w
@[go_sem] theorem tb211 (v : Value) (xT : TypeId) (w : World) : (Instr.typeAssert (.iface 211 v) xT 211 false).run Try.prog w = .ok v w := ta_bare Try.underlying211 v xT w
theorem tz212 (w : World) : (zeroValue 212).run Try.prog w = .ok (.pointer none) w := by kernel_rfl
@[go_sem] theorem ta212 (t : TypeId) (v : Value) (xT : TypeId) (w : World) : (Instr.typeAssert (.iface t v) xT 212 true).run Try.prog w = .ok (.tuple #[if t = 212 then v else .pointer none, .bool (decide (t = 212))]) w := ta_gen Try.underlying212 tz212 t v xT w
@[go_sem] theorem tn212 (xT : TypeId) (w : World) : (Instr.typeAssert .nilIface xT 212 true).run Try.prog w = .ok (.tuple #[.pointer none, .bool false]) w := ta_nil Try.underlying212 tz212 xT w
@[go_sem] theorem tb212 (v : Value) (xT : TypeId) (w : World) : (Instr.typeAssert (.iface 212 v) xT 212 false).run Try.prog w = .ok v w := ta_bare Try.underlying212 v xT w
theorem tz213 (w : World) : (zeroValue 213).run Try.prog w = .ok (.pointer none) w := by kernel_rfl
@[go_sem] theorem ta213 (t : TypeId) (v : Value) (xT : TypeId) (w : World) : (Instr.typeAssert (.iface t v) xT 213 true).run Try.prog w = .ok (.tuple #[if t = 213 then v else .pointer none, .bool (decide (t = 213))]) w := ta_gen Try.underlying213 tz213 t v xT w
@[go_sem] theorem tn213 (xT : TypeId) (w : World) : (Instr.typeAssert .nilIface xT 213 true).run Try.prog w = .ok (.tuple #[.pointer none, .bool false]) w := ta_nil Try.underlying213 tz213 xT w
@[go_sem] theorem tb213 (v : Value) (xT : TypeId) (w : World) : (Instr.typeAssert (.iface 213 v) xT 213 false).run Try.prog w = .ok v w := ta_bare Try.underlying213 v xT w
theorem tz214 (w : World) : (zeroValue 214).run Try.prog w = .ok (.pointer none) w := by kernel_rfl
@[go_sem] theorem ta214 (t : TypeId) (v : Value) (xT : TypeId) (w : World) : (Instr.typeAssert (.iface t v) xT 214 true).run Try.prog w = .ok (.tuple #[if t = 214 then v else .pointer none, .bool (decide (t = 214))]) w := ta_gen Try.underlying214 tz214 t v xT w
@[go_sem] theorem tn214 (xT : TypeId) (w : World) : (Instr.typeAssert .nilIface xT 214 true).run Try.prog w = .ok (.tuple #[.pointer none, .bool false]) w := ta_nil Try.underlying214 tz214 xT w
@[go_sem] theorem tb214 (v : Value) (xT : TypeId) (w : World) : (Instr.typeAssert (.iface 214 v) xT 214 false).run Try.prog w = .ok v w := ta_bare Try.underlying214 v xT w
theorem tz215 (w : World) : (zeroValue 215).run Try.prog w = .ok (.pointer none) w := by kernel_rfl
@[go_sem] theorem ta215 (t : TypeId) (v : Value) (xT : TypeId) (w : World) : (Instr.typeAssert (.iface t v) xT 215 true).run Try.prog w = .ok (.tuple #[if t = 215 then v else .pointer none, .bool (decide (t = 215))]) w := ta_gen Try.underlying215 tz215 t v xT w
@[go_sem] theorem tn215 (xT : TypeId) (w : World) : (Instr.typeAssert .nilIface xT 215 true).run Try.prog w = .ok (.tuple #[.pointer none, .bool false]) w := ta_nil Try.underlying215 tz215 xT w
@[go_sem] theorem tb215 (v : Value) (xT : TypeId) (w : World) : (Instr.typeAssert (.iface 215 v) xT 215 false).run Try.prog w = .ok v w := ta_bare Try.underlying215 v xT w

theorem eqIn_same (d : Nat) {P : Program} {t e : TypeId} {i : TypeInfo} (hu : P.underlying t = some (.pointer e)) (hi : P.info? e = some i) (a : Addr) (w : World) :
    (Op.equalIn (d + 1) t (.pointer (some a)) (.pointer (some a))).run P w = .ok true w := by
  by_cases h : i.size = 0
  · simp [Op.equalIn, run_underlying hu, sizeOf, typeInfo, hi, h]
  · simp [Op.equalIn, run_underlying hu, sizeOf, typeInfo, hi, h, run_sameAddr_same]
theorem eq_same {P : Program} {t e : TypeId} {i : TypeInfo} (hu : P.underlying t = some (.pointer e)) (hi : P.info? e = some i) (a : Addr) (w : World) :
    (Op.equal t (.pointer (some a)) (.pointer (some a))).run P w = .ok true w := eqIn_same 9999 hu hi a w
theorem eqIn_other (d : Nat) {P : Program} {t e : TypeId} {i : TypeInfo} (hu : P.underlying t = some (.pointer e)) (hi : P.info? e = some i) (hs : i.size ≠ 0) {a b : Addr} (w : World) {ca cb : Array Value} {ta tb : TypeId} (hne : a ≠ b) (ha : w.heap[a.block]? = some (.cells ca ta (0, 0))) (hb : w.heap[b.block]? = some (.cells cb tb (0, 0))) :
    (Op.equalIn (d + 1) t (.pointer (some a)) (.pointer (some b))).run P w = .ok false w := by
  simp [Op.equalIn, run_underlying hu, sizeOf, typeInfo, hi, hs, run_sameAddr_other w hne ha hb]
theorem eq_other {P : Program} {t e : TypeId} {i : TypeInfo} (hu : P.underlying t = some (.pointer e)) (hi : P.info? e = some i) (hs : i.size ≠ 0) {a b : Addr} (w : World) {ca cb : Array Value} {ta tb : TypeId} (hne : a ≠ b) (ha : w.heap[a.block]? = some (.cells ca ta (0, 0))) (hb : w.heap[b.block]? = some (.cells cb tb (0, 0))) :
    (Op.equal t (.pointer (some a)) (.pointer (some b))).run P w = .ok false w := eqIn_other 9999 hu hi hs w hne ha hb
theorem peq_same {P : Program} {t e : TypeId} (hu : P.underlying t = some (.pointer e)) (hi : (P.info? e).isSome = true) (a : Addr) (w : World) :
    (binOp .eql t (.pointer (some a)) (.pointer (some a))).run P w = .ok (.bool true) w := by
  obtain ⟨i, hi⟩ := Option.isSome_iff_exists.1 hi
  simp only [binOp]
  simp [eq_same hu hi]
theorem pne_same {P : Program} {t e : TypeId} (hu : P.underlying t = some (.pointer e)) (hi : (P.info? e).isSome = true) (a : Addr) (w : World) :
    (binOp .neq t (.pointer (some a)) (.pointer (some a))).run P w = .ok (.bool false) w := by
  obtain ⟨i, hi⟩ := Option.isSome_iff_exists.1 hi
  simp only [binOp]
  simp [eq_same hu hi]
theorem peq_other {P : Program} {t e : TypeId} (hu : P.underlying t = some (.pointer e)) (hi : (P.info? e).map (fun i => decide (i.size = 0)) = some false) {a b : Addr} (w : World) {ca cb : Array Value} {ta tb : TypeId} (hne : a ≠ b) (ha : w.heap[a.block]? = some (.cells ca ta (0, 0))) (hb : w.heap[b.block]? = some (.cells cb tb (0, 0))) :
    (binOp .eql t (.pointer (some a)) (.pointer (some b))).run P w = .ok (.bool false) w := by
  obtain ⟨i, hi, hs⟩ := Option.map_eq_some_iff.1 hi
  simp only [binOp]
  simp [eq_other hu hi (by simpa using hs) w hne ha hb]
theorem pne_other {P : Program} {t e : TypeId} (hu : P.underlying t = some (.pointer e)) (hi : (P.info? e).map (fun i => decide (i.size = 0)) = some false) {a b : Addr} (w : World) {ca cb : Array Value} {ta tb : TypeId} (hne : a ≠ b) (ha : w.heap[a.block]? = some (.cells ca ta (0, 0))) (hb : w.heap[b.block]? = some (.cells cb tb (0, 0))) :
    (binOp .neq t (.pointer (some a)) (.pointer (some b))).run P w = .ok (.bool true) w := by
  obtain ⟨i, hi, hs⟩ := Option.map_eq_some_iff.1 hi
  simp only [binOp]
  simp [eq_other hu hi (by simpa using hs) w hne ha hb]
@[go_sem] theorem pe114 (a : Addr) (w : World) : (binOp .eql 114 (.pointer (some a)) (.pointer (some a))).run Try.prog w = .ok (.bool true) w := peq_same Try.underlying114 (by kernel_rfl) a w
@[go_sem] theorem pn114 (a : Addr) (w : World) : (binOp .neq 114 (.pointer (some a)) (.pointer (some a))).run Try.prog w = .ok (.bool false) w := pne_same Try.underlying114 (by kernel_rfl) a w

theorem below_drewN {B : Nat} {a w : World} (h : Below B a w) (n : Nat) : Below B a (w.drewN n) := ⟨h.os, h.tape, h.output, h.size, h.block⟩
theorem bel2 {w w1 w2 : World} (h1 : Below w.heap.size w w1) (h2 : Below w1.heap.size w1 w2) : Below w.heap.size w w2 := h1.trans (h2.mono h1.size)
theorem bcell {W w1 : World} (hb : Below W.heap.size W w1) : (∀ b o, b < W.heap.size → w1.cell? ⟨b, o, none⟩ = W.cell? ⟨b, o, none⟩) ∧ (∀ b o, b < W.heap.size → w1.frozen? ⟨b, o, none⟩ = W.frozen? ⟨b, o, none⟩) :=
  ⟨fun b o h => hb.cell (p := ⟨b, o, none⟩) h, fun b o h => hb.frozen (p := ⟨b, o, none⟩) h⟩
theorem kept {W w1 : World} {b o : Nat} {v : Value} (hb : Below W.heap.size W w1) (h : W.cell? ⟨b, o, none⟩ = some v) : w1.cell? ⟨b, o, none⟩ = some v := by
  rw [hb.cell (p := ⟨b, o, none⟩) (World.block_lt_of_cell? _ _ h)]; exact h
theorem keptF {W w1 : World} {b o : Nat} {v : Value} (hb : Below W.heap.size W w1) (h : W.cell? ⟨b, o, none⟩ = some v) (hf : W.frozen? ⟨b, o, none⟩ = false) : w1.frozen? ⟨b, o, none⟩ = false := by
  rw [hb.frozen (p := ⟨b, o, none⟩) (World.block_lt_of_cell? _ _ h)]; exact hf
theorem kAlloc {w : World} {b o : Nat} {u : Value} {x : Obj} (h : w.cell? ⟨b, o, none⟩ = some u) : (w.alloc x).cell? ⟨b, o, none⟩ = some u := by
  rw [World.cell?_alloc_lt _ _ _ (World.block_lt_of_cell? _ _ h)]; exact h
theorem kSet {w : World} {b o B i : Nat} {u v : Value} (h : w.cell? ⟨b, o, none⟩ = some u) (hb : b ≠ B) : (w.setCell ⟨B, i, none⟩ v).cell? ⟨b, o, none⟩ = some u := by
  rw [World.cell?_setCell_other _ _ _ _ (by intro e; injection e with e1 _ _; exact hb (by omega))]; exact h
theorem kDrew {w : World} {a : Addr} {u : Value} (h : w.cell? a = some u) : w.drew.cell? a = some u := h
theorem ret_bool {a b : Bool} (h : a = b) : Ending.returned (.bool a) = .returned (.bool b) := by rw [h]
theorem ret_int {k : IntKind} {a b : Int} (h : a = b) : Ending.returned (.int k a) = .returned (.int k b) := by rw [h]
theorem wpList_run {P : Program} {ops : Array Oper} {rest : List Oper} {o : Oper} {a : Act} {w : World} {Q : Exit → Act → World → Prop} (hgd : o.guard = none) (v : Value) (w' : World)
    (hr : (execOp a.eval o).run P w = .ok (.value v) w') (h : wpList P ops Q rest (a.put o.dst v) w') : wpList P ops Q (o :: rest) a w :=
  wpList_plain hgd fun next hK => by
    show o.upon P a next Q ((execOp a.eval o).run P w)
    rw [hr]
    exact hK _ _ h
theorem made {P : Program} {t e : TypeId} {z : Value} {sz by_ : Nat} (hu : P.underlying t = some (.slice e)) (hi : (P.info? e).map (fun i => (i.zero, i.size, i.bytes)) = some (some z, sz, by_)) (w : World) (n : Nat) (hb : by_ * n ≤ 281474976710656) (hn : n ≤ 4611686018427387904) :
    (Instr.makeSlice t (.int .i64 (n : Int)) (.int .i64 (n : Int))).run P w = .ok (.slice (some ⟨w.heap.size, 0, none⟩) n n) (w.alloc (.cells (madeCells z.cells (n * sz)) e)) := by
  obtain ⟨i, hii, h⟩ := Option.map_eq_some_iff.1 hi
  simp only [Prod.mk.injEq] at h
  obtain ⟨h1, h2, h3⟩ := h
  subst h2 h3
  have hb2 : ((i.bytes * n : Nat) : Int) ≤ 281474976710656 := by omega
  rw [Int.natCast_mul] at hb2
  have h := run_make (P := P) w t e i z hu hii h1 .i64 .i64 (n : Int) (n : Int) (by omega) (by omega) hb2 (by omega)
  simpa using h
theorem add_none (b off k : Nat) : (⟨b, off, none⟩ : Addr).add k = ⟨b, off + k, none⟩ := by
  unfold Addr.add; split
  · rename_i h; subst h; rfl
  · rfl
theorem spot_none {w : World} {x : Addr} {v : Value} (h : w.cell? (x.add 0) = some v) : ∃ b off, x = ⟨b, off, none⟩ := by
  have h1 := World.cell?_spot h
  obtain ⟨b, off, spot⟩ := x
  have h2 : spot = none := by simpa [Addr.add] using h1
  exact ⟨b, off, by rw [h2]⟩
theorem madeAt (z : Value) (n i : Nat) (h : i < n) : (madeCells #[z] n)[i]? = some z := by
  simp [madeCells, h, Nat.mod_one]
def zeroOf (P : Program) (t : TypeId) : Array Value := match P.info? t with | some i => (match i.zero with | some z => z.cells | none => #[]) | none => #[]

/-- Block g is the cells cs of element type t, none of them frozen. -/
def At (w : World) (g : Nat) (t : TypeId) (cs : Array Value) : Prop := w.heap[g]? = some (.cells cs t (0, 0))
theorem At.lt {w : World} {g : Nat} {t : TypeId} {cs : Array Value} (h : At w g t cs) : g < w.heap.size := by
  unfold At at h
  rcases Nat.lt_or_ge g w.heap.size with h1 | h1
  · exact h1
  · rw [Array.getElem?_eq_none h1] at h; cases h
theorem At.cell {w : World} {g : Nat} {t : TypeId} {cs : Array Value} (h : At w g t cs) (i : Nat) : w.cell? ⟨g, i, none⟩ = cs[i]? := cell_of_row w g i cs t (0, 0) h
theorem At.frozen {w : World} {g : Nat} {t : TypeId} {cs : Array Value} (h : At w g t cs) (i : Nat) : w.frozen? ⟨g, i, none⟩ = false := by
  unfold At at h; simp [World.frozen?, h]
theorem At.new (w : World) (t : TypeId) (cs : Array Value) : At (w.alloc (.cells cs t)) w.heap.size t cs := heap_alloc_new w _
theorem At.drew {w : World} {g : Nat} {t : TypeId} {cs : Array Value} (h : At w g t cs) : At w.drew g t cs := h
theorem At.drewN {w : World} {g : Nat} {t : TypeId} {cs : Array Value} (h : At w g t cs) (n : Nat) : At (w.drewN n) g t cs := h
theorem At.alloc {w : World} {g : Nat} {t : TypeId} {cs : Array Value} (h : At w g t cs) (o : Obj) : At (w.alloc o) g t cs := (Below.heap_alloc w o g h.lt).trans h
theorem At.set {w : World} {g : Nat} {t : TypeId} {cs : Array Value} (h : At w g t cs) (i : Nat) (u : Value) : At (w.setCell ⟨g, i, none⟩ u) g t (cs.setIfInBounds i u) := by
  unfold At at h ⊢
  simp [World.setCell, Array.getElem?_modify, h]
theorem At.far {w : World} {g : Nat} {t : TypeId} {cs : Array Value} (h : At w g t cs) {p : Addr} (hp : g ≠ p.block) (u : Value) : At (w.setCell p u) g t cs := (Below.heap_setCell w p u g hp).trans h
theorem At.below {w w' : World} {g B : Nat} {t : TypeId} {cs : Array Value} (h : At w g t cs) (hb : Below B w w') (hg : g < B) : At w' g t cs := (hb.block g hg).trans h
/-- What is told of a slice of integers that came in (as the guide's shell tells it). -/
def IsRow (k : IntKind) (w : World) (a : Option Addr) (len cap : Nat) (zs : List Int) : Prop :=
  (a = none ∧ len = 0 ∧ cap = 0 ∧ zs = []) ∨
  ∃ x, a = some x ∧ len ≤ cap ∧ cap ≤ maxLen ∧ zs.length = cap ∧ (∀ i, i < zs.length → w.cell? (x.add i) = some (.int k (zs.getD i 0))) ∧ ∀ n ∈ zs, (Lit.int k n).wf = true
def IsBools (w : World) (a : Option Addr) (len cap : Nat) (zs : List Bool) : Prop :=
  (a = none ∧ len = 0 ∧ cap = 0 ∧ zs = []) ∨
  ∃ x, a = some x ∧ len ≤ cap ∧ cap ≤ maxLen ∧ zs.length = cap ∧ (∀ i, i < zs.length → w.cell? (x.add i) = some (.bool (zs.getD i false)))
def IsStrs (w : World) (a : Option Addr) (len cap : Nat) (zs : List ByteArray) : Prop :=
  (a = none ∧ len = 0 ∧ cap = 0 ∧ zs = []) ∨
  ∃ x, a = some x ∧ len ≤ cap ∧ cap ≤ maxLen ∧ zs.length = cap ∧ (∀ i, i < zs.length → w.cell? (x.add i) = some (.string (zs.getD i ByteArray.empty))) ∧ ∀ n ∈ zs, n.size ≤ maxLen
theorem wf_u8 {a : Int} (h : (Lit.int .u8 a).wf = true) : 0 ≤ a ∧ a ≤ 255 := by
  have hmin : IntKind.u8.min = 0 := rfl
  have hmax : IntKind.u8.max = 255 := rfl
  simp only [Lit.wf, Bool.and_eq_true, decide_eq_true_eq] at h
  exact ⟨by omega, by omega⟩
theorem wf_u16 {a : Int} (h : (Lit.int .u16 a).wf = true) : 0 ≤ a ∧ a ≤ 65535 := by
  have hmin : IntKind.u16.min = 0 := rfl
  have hmax : IntKind.u16.max = 65535 := rfl
  simp only [Lit.wf, Bool.and_eq_true, decide_eq_true_eq] at h
  exact ⟨by omega, by omega⟩
theorem wf_u32 {a : Int} (h : (Lit.int .u32 a).wf = true) : 0 ≤ a ∧ a ≤ 4294967295 := by
  have hmin : IntKind.u32.min = 0 := rfl
  have hmax : IntKind.u32.max = 4294967295 := rfl
  simp only [Lit.wf, Bool.and_eq_true, decide_eq_true_eq] at h
  exact ⟨by omega, by omega⟩
theorem wf_i8 {a : Int} (h : (Lit.int .i8 a).wf = true) : -128 ≤ a ∧ a ≤ 127 := by
  have hmin : IntKind.i8.min = -128 := rfl
  have hmax : IntKind.i8.max = 127 := rfl
  simp only [Lit.wf, Bool.and_eq_true, decide_eq_true_eq] at h
  exact ⟨by omega, by omega⟩
theorem wf_i32 {a : Int} (h : (Lit.int .i32 a).wf = true) : -2147483648 ≤ a ∧ a ≤ 2147483647 := by
  have hmin : IntKind.i32.min = -2147483648 := rfl
  have hmax : IntKind.i32.max = 2147483647 := rfl
  simp only [Lit.wf, Bool.and_eq_true, decide_eq_true_eq] at h
  exact ⟨by omega, by omega⟩
theorem wf_i64 {a : Int} (h : (Lit.int .i64 a).wf = true) : -9223372036854775808 ≤ a ∧ a ≤ 9223372036854775807 := by
  have hmin : IntKind.i64.min = -9223372036854775808 := rfl
  have hmax : IntKind.i64.max = 9223372036854775807 := rfl
  simp only [Lit.wf, Bool.and_eq_true, decide_eq_true_eq] at h
  exact ⟨by omega, by omega⟩
theorem wf_u64 {a : Int} (h : (Lit.int .u64 a).wf = true) : 0 ≤ a ∧ a ≤ 18446744073709551615 := by
  have hmin : IntKind.u64.min = 0 := rfl
  have hmax : IntKind.u64.max = 18446744073709551615 := rfl
  simp only [Lit.wf, Bool.and_eq_true, decide_eq_true_eq] at h
  exact ⟨by omega, by omega⟩
end Go.Proofs.Ytcbbnkccfbgahaa
