/- Proved here: closed facts on this program that the walks use: what a type assertion to each pointer type answers, what a field of a struct value is; and small lemmas on worlds. No condition. -/
import Derived.Test.YtjnffbnipjkibaaProg
import Derived.WalkKit
import Derived.Lib.Hide
import Derived.Below
import Derived.Laws.Rows
import Derived.Deep.Draws
import Derived.LaidEql
namespace Go.Proofs.Ytjnffbnipjkibaa
open Go.RowKit
set_option linter.unusedVariables false
set_option linter.unusedSimpArgs false

theorem ta_gen {P : Program} {c e : TypeId} (hu : P.underlying c = some (.pointer e)) (hz : ∀ w, (zeroValue c).run P w = .ok (.pointer none) w) (t : TypeId) (v : Value) (xT : TypeId) (w : World) :
    (Instr.typeAssert (.iface t v) xT c true).run P w = .ok (.tuple #[if t = c then v else .pointer none, .bool (decide (t = c))]) w := by
  by_cases h : t = c
  · subst h
    simp [Instr.typeAssert, run_underlying hu]
  · simp [Instr.typeAssert, run_underlying hu, h, hz]
theorem ta_nil {P : Program} {c e : TypeId} (hu : P.underlying c = some (.pointer e)) (hz : ∀ w, (zeroValue c).run P w = .ok (.pointer none) w) (xT : TypeId) (w : World) :
    (Instr.typeAssert .nilIface xT c true).run P w = .ok (.tuple #[.pointer none, .bool false]) w := by
  simp [Instr.typeAssert, run_underlying hu, hz]
theorem ta_bare {P : Program} {c e : TypeId} (hu : P.underlying c = some (.pointer e)) (v : Value) (xT : TypeId) (w : World) :
    (Instr.typeAssert (.iface c v) xT c false).run P w = .ok v w := by
  simp [Instr.typeAssert, run_underlying hu]
theorem tz44 (w : World) : (zeroValue 44).run Try.prog w = .ok (.pointer none) w := by kernel_rfl
@[go_sem] theorem ta44 (t : TypeId) (v : Value) (xT : TypeId) (w : World) : (Instr.typeAssert (.iface t v) xT 44 true).run Try.prog w = .ok (.tuple #[if t = 44 then v else .pointer none, .bool (decide (t = 44))]) w := ta_gen Try.underlying44 tz44 t v xT w
@[go_sem] theorem tn44 (xT : TypeId) (w : World) : (Instr.typeAssert .nilIface xT 44 true).run Try.prog w = .ok (.tuple #[.pointer none, .bool false]) w := ta_nil Try.underlying44 tz44 xT w
@[go_sem] theorem tb44 (v : Value) (xT : TypeId) (w : World) : (Instr.typeAssert (.iface 44 v) xT 44 false).run Try.prog w = .ok v w := ta_bare Try.underlying44 v xT w
theorem tz55 (w : World) : (zeroValue 55).run Try.prog w = .ok (.pointer none) w := by kernel_rfl
@[go_sem] theorem ta55 (t : TypeId) (v : Value) (xT : TypeId) (w : World) : (Instr.typeAssert (.iface t v) xT 55 true).run Try.prog w = .ok (.tuple #[if t = 55 then v else .pointer none, .bool (decide (t = 55))]) w := ta_gen Try.underlying55 tz55 t v xT w
@[go_sem] theorem tn55 (xT : TypeId) (w : World) : (Instr.typeAssert .nilIface xT 55 true).run Try.prog w = .ok (.tuple #[.pointer none, .bool false]) w := ta_nil Try.underlying55 tz55 xT w
@[go_sem] theorem tb55 (v : Value) (xT : TypeId) (w : World) : (Instr.typeAssert (.iface 55 v) xT 55 false).run Try.prog w = .ok v w := ta_bare Try.underlying55 v xT w
theorem tz77 (w : World) : (zeroValue 77).run Try.prog w = .ok (.pointer none) w := by kernel_rfl
@[go_sem] theorem ta77 (t : TypeId) (v : Value) (xT : TypeId) (w : World) : (Instr.typeAssert (.iface t v) xT 77 true).run Try.prog w = .ok (.tuple #[if t = 77 then v else .pointer none, .bool (decide (t = 77))]) w := ta_gen Try.underlying77 tz77 t v xT w
@[go_sem] theorem tn77 (xT : TypeId) (w : World) : (Instr.typeAssert .nilIface xT 77 true).run Try.prog w = .ok (.tuple #[.pointer none, .bool false]) w := ta_nil Try.underlying77 tz77 xT w
@[go_sem] theorem tb77 (v : Value) (xT : TypeId) (w : World) : (Instr.typeAssert (.iface 77 v) xT 77 false).run Try.prog w = .ok v w := ta_bare Try.underlying77 v xT w
theorem tz78 (w : World) : (zeroValue 78).run Try.prog w = .ok (.pointer none) w := by kernel_rfl
@[go_sem] theorem ta78 (t : TypeId) (v : Value) (xT : TypeId) (w : World) : (Instr.typeAssert (.iface t v) xT 78 true).run Try.prog w = .ok (.tuple #[if t = 78 then v else .pointer none, .bool (decide (t = 78))]) w := ta_gen Try.underlying78 tz78 t v xT w
@[go_sem] theorem tn78 (xT : TypeId) (w : World) : (Instr.typeAssert .nilIface xT 78 true).run Try.prog w = .ok (.tuple #[.pointer none, .bool false]) w := ta_nil Try.underlying78 tz78 xT w
@[go_sem] theorem tb78 (v : Value) (xT : TypeId) (w : World) : (Instr.typeAssert (.iface 78 v) xT 78 false).run Try.prog w = .ok v w := ta_bare Try.underlying78 v xT w
theorem tz79 (w : World) : (zeroValue 79).run Try.prog w = .ok (.pointer none) w := by kernel_rfl
@[go_sem] theorem ta79 (t : TypeId) (v : Value) (xT : TypeId) (w : World) : (Instr.typeAssert (.iface t v) xT 79 true).run Try.prog w = .ok (.tuple #[if t = 79 then v else .pointer none, .bool (decide (t = 79))]) w := ta_gen Try.underlying79 tz79 t v xT w
@[go_sem] theorem tn79 (xT : TypeId) (w : World) : (Instr.typeAssert .nilIface xT 79 true).run Try.prog w = .ok (.tuple #[.pointer none, .bool false]) w := ta_nil Try.underlying79 tz79 xT w
@[go_sem] theorem tb79 (v : Value) (xT : TypeId) (w : World) : (Instr.typeAssert (.iface 79 v) xT 79 false).run Try.prog w = .ok v w := ta_bare Try.underlying79 v xT w
theorem tz80 (w : World) : (zeroValue 80).run Try.prog w = .ok (.pointer none) w := by kernel_rfl
@[go_sem] theorem ta80 (t : TypeId) (v : Value) (xT : TypeId) (w : World) : (Instr.typeAssert (.iface t v) xT 80 true).run Try.prog w = .ok (.tuple #[if t = 80 then v else .pointer none, .bool (decide (t = 80))]) w := ta_gen Try.underlying80 tz80 t v xT w
@[go_sem] theorem tn80 (xT : TypeId) (w : World) : (Instr.typeAssert .nilIface xT 80 true).run Try.prog w = .ok (.tuple #[.pointer none, .bool false]) w := ta_nil Try.underlying80 tz80 xT w
@[go_sem] theorem tb80 (v : Value) (xT : TypeId) (w : World) : (Instr.typeAssert (.iface 80 v) xT 80 false).run Try.prog w = .ok v w := ta_bare Try.underlying80 v xT w
theorem tz81 (w : World) : (zeroValue 81).run Try.prog w = .ok (.pointer none) w := by kernel_rfl
@[go_sem] theorem ta81 (t : TypeId) (v : Value) (xT : TypeId) (w : World) : (Instr.typeAssert (.iface t v) xT 81 true).run Try.prog w = .ok (.tuple #[if t = 81 then v else .pointer none, .bool (decide (t = 81))]) w := ta_gen Try.underlying81 tz81 t v xT w
@[go_sem] theorem tn81 (xT : TypeId) (w : World) : (Instr.typeAssert .nilIface xT 81 true).run Try.prog w = .ok (.tuple #[.pointer none, .bool false]) w := ta_nil Try.underlying81 tz81 xT w
@[go_sem] theorem tb81 (v : Value) (xT : TypeId) (w : World) : (Instr.typeAssert (.iface 81 v) xT 81 false).run Try.prog w = .ok v w := ta_bare Try.underlying81 v xT w
theorem tz82 (w : World) : (zeroValue 82).run Try.prog w = .ok (.pointer none) w := by kernel_rfl
@[go_sem] theorem ta82 (t : TypeId) (v : Value) (xT : TypeId) (w : World) : (Instr.typeAssert (.iface t v) xT 82 true).run Try.prog w = .ok (.tuple #[if t = 82 then v else .pointer none, .bool (decide (t = 82))]) w := ta_gen Try.underlying82 tz82 t v xT w
@[go_sem] theorem tn82 (xT : TypeId) (w : World) : (Instr.typeAssert .nilIface xT 82 true).run Try.prog w = .ok (.tuple #[.pointer none, .bool false]) w := ta_nil Try.underlying82 tz82 xT w
@[go_sem] theorem tb82 (v : Value) (xT : TypeId) (w : World) : (Instr.typeAssert (.iface 82 v) xT 82 false).run Try.prog w = .ok v w := ta_bare Try.underlying82 v xT w
theorem tz83 (w : World) : (zeroValue 83).run Try.prog w = .ok (.pointer none) w := by kernel_rfl
@[go_sem] theorem ta83 (t : TypeId) (v : Value) (xT : TypeId) (w : World) : (Instr.typeAssert (.iface t v) xT 83 true).run Try.prog w = .ok (.tuple #[if t = 83 then v else .pointer none, .bool (decide (t = 83))]) w := ta_gen Try.underlying83 tz83 t v xT w
@[go_sem] theorem tn83 (xT : TypeId) (w : World) : (Instr.typeAssert .nilIface xT 83 true).run Try.prog w = .ok (.tuple #[.pointer none, .bool false]) w := ta_nil Try.underlying83 tz83 xT w
@[go_sem] theorem tb83 (v : Value) (xT : TypeId) (w : World) : (Instr.typeAssert (.iface 83 v) xT 83 false).run Try.prog w = .ok v w := ta_bare Try.underlying83 v xT w
theorem tz84 (w : World) : (zeroValue 84).run Try.prog w = .ok (.pointer none) w := by kernel_rfl
@[go_sem] theorem ta84 (t : TypeId) (v : Value) (xT : TypeId) (w : World) : (Instr.typeAssert (.iface t v) xT 84 true).run Try.prog w = .ok (.tuple #[if t = 84 then v else .pointer none, .bool (decide (t = 84))]) w := ta_gen Try.underlying84 tz84 t v xT w
@[go_sem] theorem tn84 (xT : TypeId) (w : World) : (Instr.typeAssert .nilIface xT 84 true).run Try.prog w = .ok (.tuple #[.pointer none, .bool false]) w := ta_nil Try.underlying84 tz84 xT w
@[go_sem] theorem tb84 (v : Value) (xT : TypeId) (w : World) : (Instr.typeAssert (.iface 84 v) xT 84 false).run Try.prog w = .ok v w := ta_bare Try.underlying84 v xT w
theorem tz85 (w : World) : (zeroValue 85).run Try.prog w = .ok (.pointer none) w := by kernel_rfl
@[go_sem] theorem ta85 (t : TypeId) (v : Value) (xT : TypeId) (w : World) : (Instr.typeAssert (.iface t v) xT 85 true).run Try.prog w = .ok (.tuple #[if t = 85 then v else .pointer none, .bool (decide (t = 85))]) w := ta_gen Try.underlying85 tz85 t v xT w
@[go_sem] theorem tn85 (xT : TypeId) (w : World) : (Instr.typeAssert .nilIface xT 85 true).run Try.prog w = .ok (.tuple #[.pointer none, .bool false]) w := ta_nil Try.underlying85 tz85 xT w
@[go_sem] theorem tb85 (v : Value) (xT : TypeId) (w : World) : (Instr.typeAssert (.iface 85 v) xT 85 false).run Try.prog w = .ok v w := ta_bare Try.underlying85 v xT w
theorem tz90 (w : World) : (zeroValue 90).run Try.prog w = .ok (.pointer none) w := by kernel_rfl
@[go_sem] theorem ta90 (t : TypeId) (v : Value) (xT : TypeId) (w : World) : (Instr.typeAssert (.iface t v) xT 90 true).run Try.prog w = .ok (.tuple #[if t = 90 then v else .pointer none, .bool (decide (t = 90))]) w := ta_gen Try.underlying90 tz90 t v xT w
@[go_sem] theorem tn90 (xT : TypeId) (w : World) : (Instr.typeAssert .nilIface xT 90 true).run Try.prog w = .ok (.tuple #[.pointer none, .bool false]) w := ta_nil Try.underlying90 tz90 xT w
@[go_sem] theorem tb90 (v : Value) (xT : TypeId) (w : World) : (Instr.typeAssert (.iface 90 v) xT 90 false).run Try.prog w = .ok v w := ta_bare Try.underlying90 v xT w
theorem tz101 (w : World) : (zeroValue 101).run Try.prog w = .ok (.pointer none) w := by kernel_rfl
@[go_sem] theorem ta101 (t : TypeId) (v : Value) (xT : TypeId) (w : World) : (Instr.typeAssert (.iface t v) xT 101 true).run Try.prog w = .ok (.tuple #[if t = 101 then v else .pointer none, .bool (decide (t = 101))]) w := ta_gen Try.underlying101 tz101 t v xT w
@[go_sem] theorem tn101 (xT : TypeId) (w : World) : (Instr.typeAssert .nilIface xT 101 true).run Try.prog w = .ok (.tuple #[.pointer none, .bool false]) w := ta_nil Try.underlying101 tz101 xT w
@[go_sem] theorem tb101 (v : Value) (xT : TypeId) (w : World) : (Instr.typeAssert (.iface 101 v) xT 101 false).run Try.prog w = .ok v w := ta_bare Try.underlying101 v xT w
theorem tz129 (w : World) : (zeroValue 129).run Try.prog w = .ok (.pointer none) w := by kernel_rfl
@[go_sem] theorem ta129 (t : TypeId) (v : Value) (xT : TypeId) (w : World) : (Instr.typeAssert (.iface t v) xT 129 true).run Try.prog w = .ok (.tuple #[if t = 129 then v else .pointer none, .bool (decide (t = 129))]) w := ta_gen Try.underlying129 tz129 t v xT w
@[go_sem] theorem tn129 (xT : TypeId) (w : World) : (Instr.typeAssert .nilIface xT 129 true).run Try.prog w = .ok (.tuple #[.pointer none, .bool false]) w := ta_nil Try.underlying129 tz129 xT w
@[go_sem] theorem tb129 (v : Value) (xT : TypeId) (w : World) : (Instr.typeAssert (.iface 129 v) xT 129 false).run Try.prog w = .ok v w := ta_bare Try.underlying129 v xT w
theorem tz132 (w : World) : (zeroValue 132).run Try.prog w = .ok (.pointer none) w := by kernel_rfl
@[go_sem] theorem ta132 (t : TypeId) (v : Value) (xT : TypeId) (w : World) : (Instr.typeAssert (.iface t v) xT 132 true).run Try.prog w = .ok (.tuple #[if t = 132 then v else .pointer none, .bool (decide (t = 132))]) w := ta_gen Try.underlying132 tz132 t v xT w
@[go_sem] theorem tn132 (xT : TypeId) (w : World) : (Instr.typeAssert .nilIface xT 132 true).run Try.prog w = .ok (.tuple #[.pointer none, .bool false]) w := ta_nil Try.underlying132 tz132 xT w
@[go_sem] theorem tb132 (v : Value) (xT : TypeId) (w : World) : (Instr.typeAssert (.iface 132 v) xT 132 false).run Try.prog w = .ok v w := ta_bare Try.underlying132 v xT w
theorem tz136 (w : World) : (zeroValue 136).run Try.prog w = .ok (.pointer none) w := by kernel_rfl
@[go_sem] theorem ta136 (t : TypeId) (v : Value) (xT : TypeId) (w : World) : (Instr.typeAssert (.iface t v) xT 136 true).run Try.prog w = .ok (.tuple #[if t = 136 then v else .pointer none, .bool (decide (t = 136))]) w := ta_gen Try.underlying136 tz136 t v xT w
@[go_sem] theorem tn136 (xT : TypeId) (w : World) : (Instr.typeAssert .nilIface xT 136 true).run Try.prog w = .ok (.tuple #[.pointer none, .bool false]) w := ta_nil Try.underlying136 tz136 xT w
@[go_sem] theorem tb136 (v : Value) (xT : TypeId) (w : World) : (Instr.typeAssert (.iface 136 v) xT 136 false).run Try.prog w = .ok v w := ta_bare Try.underlying136 v xT w
theorem tz137 (w : World) : (zeroValue 137).run Try.prog w = .ok (.pointer none) w := by kernel_rfl
@[go_sem] theorem ta137 (t : TypeId) (v : Value) (xT : TypeId) (w : World) : (Instr.typeAssert (.iface t v) xT 137 true).run Try.prog w = .ok (.tuple #[if t = 137 then v else .pointer none, .bool (decide (t = 137))]) w := ta_gen Try.underlying137 tz137 t v xT w
@[go_sem] theorem tn137 (xT : TypeId) (w : World) : (Instr.typeAssert .nilIface xT 137 true).run Try.prog w = .ok (.tuple #[.pointer none, .bool false]) w := ta_nil Try.underlying137 tz137 xT w
@[go_sem] theorem tb137 (v : Value) (xT : TypeId) (w : World) : (Instr.typeAssert (.iface 137 v) xT 137 false).run Try.prog w = .ok v w := ta_bare Try.underlying137 v xT w
theorem tz139 (w : World) : (zeroValue 139).run Try.prog w = .ok (.pointer none) w := by kernel_rfl
@[go_sem] theorem ta139 (t : TypeId) (v : Value) (xT : TypeId) (w : World) : (Instr.typeAssert (.iface t v) xT 139 true).run Try.prog w = .ok (.tuple #[if t = 139 then v else .pointer none, .bool (decide (t = 139))]) w := ta_gen Try.underlying139 tz139 t v xT w
@[go_sem] theorem tn139 (xT : TypeId) (w : World) : (Instr.typeAssert .nilIface xT 139 true).run Try.prog w = .ok (.tuple #[.pointer none, .bool false]) w := ta_nil Try.underlying139 tz139 xT w
@[go_sem] theorem tb139 (v : Value) (xT : TypeId) (w : World) : (Instr.typeAssert (.iface 139 v) xT 139 false).run Try.prog w = .ok v w := ta_bare Try.underlying139 v xT w
theorem tz142 (w : World) : (zeroValue 142).run Try.prog w = .ok (.pointer none) w := by kernel_rfl
@[go_sem] theorem ta142 (t : TypeId) (v : Value) (xT : TypeId) (w : World) : (Instr.typeAssert (.iface t v) xT 142 true).run Try.prog w = .ok (.tuple #[if t = 142 then v else .pointer none, .bool (decide (t = 142))]) w := ta_gen Try.underlying142 tz142 t v xT w
@[go_sem] theorem tn142 (xT : TypeId) (w : World) : (Instr.typeAssert .nilIface xT 142 true).run Try.prog w = .ok (.tuple #[.pointer none, .bool false]) w := ta_nil Try.underlying142 tz142 xT w
@[go_sem] theorem tb142 (v : Value) (xT : TypeId) (w : World) : (Instr.typeAssert (.iface 142 v) xT 142 false).run Try.prog w = .ok v w := ta_bare Try.underlying142 v xT w
theorem tz146 (w : World) : (zeroValue 146).run Try.prog w = .ok (.pointer none) w := by kernel_rfl
@[go_sem] theorem ta146 (t : TypeId) (v : Value) (xT : TypeId) (w : World) : (Instr.typeAssert (.iface t v) xT 146 true).run Try.prog w = .ok (.tuple #[if t = 146 then v else .pointer none, .bool (decide (t = 146))]) w := ta_gen Try.underlying146 tz146 t v xT w
@[go_sem] theorem tn146 (xT : TypeId) (w : World) : (Instr.typeAssert .nilIface xT 146 true).run Try.prog w = .ok (.tuple #[.pointer none, .bool false]) w := ta_nil Try.underlying146 tz146 xT w
@[go_sem] theorem tb146 (v : Value) (xT : TypeId) (w : World) : (Instr.typeAssert (.iface 146 v) xT 146 false).run Try.prog w = .ok v w := ta_bare Try.underlying146 v xT w
theorem tz151 (w : World) : (zeroValue 151).run Try.prog w = .ok (.pointer none) w := by kernel_rfl
@[go_sem] theorem ta151 (t : TypeId) (v : Value) (xT : TypeId) (w : World) : (Instr.typeAssert (.iface t v) xT 151 true).run Try.prog w = .ok (.tuple #[if t = 151 then v else .pointer none, .bool (decide (t = 151))]) w := ta_gen Try.underlying151 tz151 t v xT w
@[go_sem] theorem tn151 (xT : TypeId) (w : World) : (Instr.typeAssert .nilIface xT 151 true).run Try.prog w = .ok (.tuple #[.pointer none, .bool false]) w := ta_nil Try.underlying151 tz151 xT w
@[go_sem] theorem tb151 (v : Value) (xT : TypeId) (w : World) : (Instr.typeAssert (.iface 151 v) xT 151 false).run Try.prog w = .ok v w := ta_bare Try.underlying151 v xT w
theorem tz156 (w : World) : (zeroValue 156).run Try.prog w = .ok (.pointer none) w := by kernel_rfl
@[go_sem] theorem ta156 (t : TypeId) (v : Value) (xT : TypeId) (w : World) : (Instr.typeAssert (.iface t v) xT 156 true).run Try.prog w = .ok (.tuple #[if t = 156 then v else .pointer none, .bool (decide (t = 156))]) w := ta_gen Try.underlying156 tz156 t v xT w
@[go_sem] theorem tn156 (xT : TypeId) (w : World) : (Instr.typeAssert .nilIface xT 156 true).run Try.prog w = .ok (.tuple #[.pointer none, .bool false]) w := ta_nil Try.underlying156 tz156 xT w
@[go_sem] theorem tb156 (v : Value) (xT : TypeId) (w : World) : (Instr.typeAssert (.iface 156 v) xT 156 false).run Try.prog w = .ok v w := ta_bare Try.underlying156 v xT w
theorem tz157 (w : World) : (zeroValue 157).run Try.prog w = .ok (.pointer none) w := by kernel_rfl
@[go_sem] theorem ta157 (t : TypeId) (v : Value) (xT : TypeId) (w : World) : (Instr.typeAssert (.iface t v) xT 157 true).run Try.prog w = .ok (.tuple #[if t = 157 then v else .pointer none, .bool (decide (t = 157))]) w := ta_gen Try.underlying157 tz157 t v xT w
@[go_sem] theorem tn157 (xT : TypeId) (w : World) : (Instr.typeAssert .nilIface xT 157 true).run Try.prog w = .ok (.tuple #[.pointer none, .bool false]) w := ta_nil Try.underlying157 tz157 xT w
@[go_sem] theorem tb157 (v : Value) (xT : TypeId) (w : World) : (Instr.typeAssert (.iface 157 v) xT 157 false).run Try.prog w = .ok v w := ta_bare Try.underlying157 v xT w
theorem tz158 (w : World) : (zeroValue 158).run Try.prog w = .ok (.pointer none) w := by kernel_rfl
@[go_sem] theorem ta158 (t : TypeId) (v : Value) (xT : TypeId) (w : World) : (Instr.typeAssert (.iface t v) xT 158 true).run Try.prog w = .ok (.tuple #[if t = 158 then v else .pointer none, .bool (decide (t = 158))]) w := ta_gen Try.underlying158 tz158 t v xT w
@[go_sem] theorem tn158 (xT : TypeId) (w : World) : (Instr.typeAssert .nilIface xT 158 true).run Try.prog w = .ok (.tuple #[.pointer none, .bool false]) w := ta_nil Try.underlying158 tz158 xT w
@[go_sem] theorem tb158 (v : Value) (xT : TypeId) (w : World) : (Instr.typeAssert (.iface 158 v) xT 158 false).run Try.prog w = .ok v w := ta_bare Try.underlying158 v xT w
theorem tz159 (w : World) : (zeroValue 159).run Try.prog w = .ok (.pointer none) w := by kernel_rfl
@[go_sem] theorem ta159 (t : TypeId) (v : Value) (xT : TypeId) (w : World) : (Instr.typeAssert (.iface t v) xT 159 true).run Try.prog w = .ok (.tuple #[if t = 159 then v else .pointer none, .bool (decide (t = 159))]) w := ta_gen Try.underlying159 tz159 t v xT w
@[go_sem] theorem tn159 (xT : TypeId) (w : World) : (Instr.typeAssert .nilIface xT 159 true).run Try.prog w = .ok (.tuple #[.pointer none, .bool false]) w := ta_nil Try.underlying159 tz159 xT w
@[go_sem] theorem tb159 (v : Value) (xT : TypeId) (w : World) : (Instr.typeAssert (.iface 159 v) xT 159 false).run Try.prog w = .ok v w := ta_bare Try.underlying159 v xT w
theorem tz160 (w : World) : (zeroValue 160).run Try.prog w = .ok (.pointer none) w := by kernel_rfl
@[go_sem] theorem ta160 (t : TypeId) (v : Value) (xT : TypeId) (w : World) : (Instr.typeAssert (.iface t v) xT 160 true).run Try.prog w = .ok (.tuple #[if t = 160 then v else .pointer none, .bool (decide (t = 160))]) w := ta_gen Try.underlying160 tz160 t v xT w
@[go_sem] theorem tn160 (xT : TypeId) (w : World) : (Instr.typeAssert .nilIface xT 160 true).run Try.prog w = .ok (.tuple #[.pointer none, .bool false]) w := ta_nil Try.underlying160 tz160 xT w
@[go_sem] theorem tb160 (v : Value) (xT : TypeId) (w : World) : (Instr.typeAssert (.iface 160 v) xT 160 false).run Try.prog w = .ok v w := ta_bare Try.underlying160 v xT w
theorem tz161 (w : World) : (zeroValue 161).run Try.prog w = .ok (.pointer none) w := by kernel_rfl
@[go_sem] theorem ta161 (t : TypeId) (v : Value) (xT : TypeId) (w : World) : (Instr.typeAssert (.iface t v) xT 161 true).run Try.prog w = .ok (.tuple #[if t = 161 then v else .pointer none, .bool (decide (t = 161))]) w := ta_gen Try.underlying161 tz161 t v xT w
@[go_sem] theorem tn161 (xT : TypeId) (w : World) : (Instr.typeAssert .nilIface xT 161 true).run Try.prog w = .ok (.tuple #[.pointer none, .bool false]) w := ta_nil Try.underlying161 tz161 xT w
@[go_sem] theorem tb161 (v : Value) (xT : TypeId) (w : World) : (Instr.typeAssert (.iface 161 v) xT 161 false).run Try.prog w = .ok v w := ta_bare Try.underlying161 v xT w
theorem tz162 (w : World) : (zeroValue 162).run Try.prog w = .ok (.pointer none) w := by kernel_rfl
@[go_sem] theorem ta162 (t : TypeId) (v : Value) (xT : TypeId) (w : World) : (Instr.typeAssert (.iface t v) xT 162 true).run Try.prog w = .ok (.tuple #[if t = 162 then v else .pointer none, .bool (decide (t = 162))]) w := ta_gen Try.underlying162 tz162 t v xT w
@[go_sem] theorem tn162 (xT : TypeId) (w : World) : (Instr.typeAssert .nilIface xT 162 true).run Try.prog w = .ok (.tuple #[.pointer none, .bool false]) w := ta_nil Try.underlying162 tz162 xT w
@[go_sem] theorem tb162 (v : Value) (xT : TypeId) (w : World) : (Instr.typeAssert (.iface 162 v) xT 162 false).run Try.prog w = .ok v w := ta_bare Try.underlying162 v xT w
theorem tz163 (w : World) : (zeroValue 163).run Try.prog w = .ok (.pointer none) w := by kernel_rfl
@[go_sem] theorem ta163 (t : TypeId) (v : Value) (xT : TypeId) (w : World) : (Instr.typeAssert (.iface t v) xT 163 true).run Try.prog w = .ok (.tuple #[if t = 163 then v else .pointer none, .bool (decide (t = 163))]) w := ta_gen Try.underlying163 tz163 t v xT w
@[go_sem] theorem tn163 (xT : TypeId) (w : World) : (Instr.typeAssert .nilIface xT 163 true).run Try.prog w = .ok (.tuple #[.pointer none, .bool false]) w := ta_nil Try.underlying163 tz163 xT w
@[go_sem] theorem tb163 (v : Value) (xT : TypeId) (w : World) : (Instr.typeAssert (.iface 163 v) xT 163 false).run Try.prog w = .ok v w := ta_bare Try.underlying163 v xT w

theorem eqIn_same (d : Nat) {P : Program} {t e : TypeId} {i : TypeInfo} (hu : P.underlying t = some (.pointer e)) (hi : P.info? e = some i) (a : Addr) (w : World) :
    (Op.equalIn (d + 1) t (.pointer (some a)) (.pointer (some a))).run P w = .ok true w := by
  by_cases h : i.size = 0
  · simp [Op.equalIn, run_underlying hu, sizeOf, typeInfo, hi, h]
  · simp [Op.equalIn, run_underlying hu, sizeOf, typeInfo, hi, h, run_sameAddr_same]
theorem eq_same {P : Program} {t e : TypeId} {i : TypeInfo} (hu : P.underlying t = some (.pointer e)) (hi : P.info? e = some i) (a : Addr) (w : World) :
    (Op.equal t (.pointer (some a)) (.pointer (some a))).run P w = .ok true w := eqIn_same 9999 hu hi a w
theorem eqIn_other (d : Nat) {P : Program} {t e : TypeId} {i : TypeInfo} (hu : P.underlying t = some (.pointer e)) (hi : P.info? e = some i) (hs : i.size ≠ 0) {a b : Addr} (w : World) {ca cb : Array Value} {ta tb : TypeId} (hne : a ≠ b) (ha : w.heap[a.block]? = some (.cells ca ta (0, 0))) (hb : w.heap[b.block]? = some (.cells cb tb (0, 0))) :
    (Op.equalIn (d + 1) t (.pointer (some a)) (.pointer (some b))).run P w = .ok false w := by
  simp [Op.equalIn, run_underlying hu, sizeOf, typeInfo, hi, hs, run_sameAddr_other w hne ha hb]
theorem eq_other {P : Program} {t e : TypeId} {i : TypeInfo} (hu : P.underlying t = some (.pointer e)) (hi : P.info? e = some i) (hs : i.size ≠ 0) {a b : Addr} (w : World) {ca cb : Array Value} {ta tb : TypeId} (hne : a ≠ b) (ha : w.heap[a.block]? = some (.cells ca ta (0, 0))) (hb : w.heap[b.block]? = some (.cells cb tb (0, 0))) :
    (Op.equal t (.pointer (some a)) (.pointer (some b))).run P w = .ok false w := eqIn_other 9999 hu hi hs w hne ha hb
theorem peq_same {P : Program} {t e : TypeId} (hu : P.underlying t = some (.pointer e)) (hi : (P.info? e).isSome = true) (a : Addr) (w : World) :
    (binOp .eql t (.pointer (some a)) (.pointer (some a))).run P w = .ok (.bool true) w := by
  obtain ⟨i, hi⟩ := Option.isSome_iff_exists.1 hi
  simp only [binOp]
  simp [eq_same hu hi]
theorem pne_same {P : Program} {t e : TypeId} (hu : P.underlying t = some (.pointer e)) (hi : (P.info? e).isSome = true) (a : Addr) (w : World) :
    (binOp .neq t (.pointer (some a)) (.pointer (some a))).run P w = .ok (.bool false) w := by
  obtain ⟨i, hi⟩ := Option.isSome_iff_exists.1 hi
  simp only [binOp]
  simp [eq_same hu hi]
theorem peq_other {P : Program} {t e : TypeId} (hu : P.underlying t = some (.pointer e)) (hi : (P.info? e).map (fun i => decide (i.size = 0)) = some false) {a b : Addr} (w : World) {ca cb : Array Value} {ta tb : TypeId} (hne : a ≠ b) (ha : w.heap[a.block]? = some (.cells ca ta (0, 0))) (hb : w.heap[b.block]? = some (.cells cb tb (0, 0))) :
    (binOp .eql t (.pointer (some a)) (.pointer (some b))).run P w = .ok (.bool false) w := by
  obtain ⟨i, hi, hs⟩ := Option.map_eq_some_iff.1 hi
  simp only [binOp]
  simp [eq_other hu hi (by simpa using hs) w hne ha hb]
theorem pne_other {P : Program} {t e : TypeId} (hu : P.underlying t = some (.pointer e)) (hi : (P.info? e).map (fun i => decide (i.size = 0)) = some false) {a b : Addr} (w : World) {ca cb : Array Value} {ta tb : TypeId} (hne : a ≠ b) (ha : w.heap[a.block]? = some (.cells ca ta (0, 0))) (hb : w.heap[b.block]? = some (.cells cb tb (0, 0))) :
    (binOp .neq t (.pointer (some a)) (.pointer (some b))).run P w = .ok (.bool true) w := by
  obtain ⟨i, hi, hs⟩ := Option.map_eq_some_iff.1 hi
  simp only [binOp]
  simp [eq_other hu hi (by simpa using hs) w hne ha hb]
@[go_sem] theorem pe91 (a : Addr) (w : World) : (binOp .eql 91 (.pointer (some a)) (.pointer (some a))).run Try.prog w = .ok (.bool true) w := peq_same Try.underlying91 (by kernel_rfl) a w
@[go_sem] theorem pn91 (a : Addr) (w : World) : (binOp .neq 91 (.pointer (some a)) (.pointer (some a))).run Try.prog w = .ok (.bool false) w := pne_same Try.underlying91 (by kernel_rfl) a w

theorem below_drewN {B : Nat} {a w : World} (h : Below B a w) (n : Nat) : Below B a (w.drewN n) := ⟨h.os, h.tape, h.output, h.size, h.block⟩
theorem bel2 {w w1 w2 : World} (h1 : Below w.heap.size w w1) (h2 : Below w1.heap.size w1 w2) : Below w.heap.size w w2 := h1.trans (h2.mono h1.size)
theorem bcell {W w1 : World} (hb : Below W.heap.size W w1) : (∀ b o, b < W.heap.size → w1.cell? ⟨b, o, none⟩ = W.cell? ⟨b, o, none⟩) ∧ (∀ b o, b < W.heap.size → w1.frozen? ⟨b, o, none⟩ = W.frozen? ⟨b, o, none⟩) :=
  ⟨fun b o h => hb.cell (p := ⟨b, o, none⟩) h, fun b o h => hb.frozen (p := ⟨b, o, none⟩) h⟩
theorem kept {W w1 : World} {b o : Nat} {v : Value} (hb : Below W.heap.size W w1) (h : W.cell? ⟨b, o, none⟩ = some v) : w1.cell? ⟨b, o, none⟩ = some v := by
  rw [hb.cell (p := ⟨b, o, none⟩) (World.block_lt_of_cell? _ _ h)]; exact h
theorem keptF {W w1 : World} {b o : Nat} {v : Value} (hb : Below W.heap.size W w1) (h : W.cell? ⟨b, o, none⟩ = some v) (hf : W.frozen? ⟨b, o, none⟩ = false) : w1.frozen? ⟨b, o, none⟩ = false := by
  rw [hb.frozen (p := ⟨b, o, none⟩) (World.block_lt_of_cell? _ _ h)]; exact hf
theorem kAlloc {w : World} {b o : Nat} {u : Value} {x : Obj} (h : w.cell? ⟨b, o, none⟩ = some u) : (w.alloc x).cell? ⟨b, o, none⟩ = some u := by
  rw [World.cell?_alloc_lt _ _ _ (World.block_lt_of_cell? _ _ h)]; exact h
theorem kSet {w : World} {b o B i : Nat} {u v : Value} (h : w.cell? ⟨b, o, none⟩ = some u) (hb : b ≠ B) : (w.setCell ⟨B, i, none⟩ v).cell? ⟨b, o, none⟩ = some u := by
  rw [World.cell?_setCell_other _ _ _ _ (by intro e; injection e with e1 _ _; exact hb (by omega))]; exact h
theorem kDrew {w : World} {a : Addr} {u : Value} (h : w.cell? a = some u) : w.drew.cell? a = some u := h
theorem ret_bool {a b : Bool} (h : a = b) : Ending.returned (.bool a) = .returned (.bool b) := by rw [h]
theorem ret_int {k : IntKind} {a b : Int} (h : a = b) : Ending.returned (.int k a) = .returned (.int k b) := by rw [h]
theorem wpList_run {P : Program} {ops : Array Oper} {rest : List Oper} {o : Oper} {a : Act} {w : World} {Q : Exit → Act → World → Prop} (hgd : o.guard = none) (v : Value) (w' : World)
    (hr : (execOp a.eval o).run P w = .ok (.value v) w') (h : wpList P ops Q rest (a.put o.dst v) w') : wpList P ops Q (o :: rest) a w :=
  wpList_plain hgd fun next hK => by
    show o.upon P a next Q ((execOp a.eval o).run P w)
    rw [hr]
    exact hK _ _ h
theorem made {P : Program} {t e : TypeId} {z : Value} {sz by_ : Nat} (hu : P.underlying t = some (.slice e)) (hi : (P.info? e).map (fun i => (i.zero, i.size, i.bytes)) = some (some z, sz, by_)) (w : World) (n : Nat) (hb : by_ * n ≤ 281474976710656) (hn : n ≤ 4611686018427387904) :
    (Instr.makeSlice t (.int .i64 (n : Int)) (.int .i64 (n : Int))).run P w = .ok (.slice (some ⟨w.heap.size, 0, none⟩) n n) (w.alloc (.cells (madeCells z.cells (n * sz)) e)) := by
  obtain ⟨i, hii, h⟩ := Option.map_eq_some_iff.1 hi
  simp only [Prod.mk.injEq] at h
  obtain ⟨h1, h2, h3⟩ := h
  subst h2 h3
  have hb2 : ((i.bytes * n : Nat) : Int) ≤ 281474976710656 := by omega
  rw [Int.natCast_mul] at hb2
  have h := run_make (P := P) w t e i z hu hii h1 .i64 .i64 (n : Int) (n : Int) (by omega) (by omega) hb2 (by omega)
  simpa using h
theorem add_none (b off k : Nat) : (⟨b, off, none⟩ : Addr).add k = ⟨b, off + k, none⟩ := by
  unfold Addr.add; split
  · rename_i h; subst h; rfl
  · rfl
theorem spot_none {w : World} {x : Addr} {v : Value} (h : w.cell? (x.add 0) = some v) : ∃ b off, x = ⟨b, off, none⟩ := by
  have h1 := World.cell?_spot h
  obtain ⟨b, off, spot⟩ := x
  have h2 : spot = none := by simpa [Addr.add] using h1
  exact ⟨b, off, by rw [h2]⟩
theorem madeAt (z : Value) (n i : Nat) (h : i < n) : (madeCells #[z] n)[i]? = some z := by
  simp [madeCells, h, Nat.mod_one]
def zeroOf (P : Program) (t : TypeId) : Array Value := match P.info? t with | some i => (match i.zero with | some z => z.cells | none => #[]) | none => #[]

/-- Block g is the cells cs of element type t, none of them frozen. -/
def At (w : World) (g : Nat) (t : TypeId) (cs : Array Value) : Prop := w.heap[g]? = some (.cells cs t (0, 0))
theorem At.lt {w : World} {g : Nat} {t : TypeId} {cs : Array Value} (h : At w g t cs) : g < w.heap.size := by
  unfold At at h
  rcases Nat.lt_or_ge g w.heap.size with h1 | h1
  · exact h1
  · rw [Array.getElem?_eq_none h1] at h; cases h
theorem At.cell {w : World} {g : Nat} {t : TypeId} {cs : Array Value} (h : At w g t cs) (i : Nat) : w.cell? ⟨g, i, none⟩ = cs[i]? := cell_of_row w g i cs t (0, 0) h
theorem At.frozen {w : World} {g : Nat} {t : TypeId} {cs : Array Value} (h : At w g t cs) (i : Nat) : w.frozen? ⟨g, i, none⟩ = false := by
  unfold At at h; simp [World.frozen?, h]
theorem At.new (w : World) (t : TypeId) (cs : Array Value) : At (w.alloc (.cells cs t)) w.heap.size t cs := heap_alloc_new w _
theorem At.drew {w : World} {g : Nat} {t : TypeId} {cs : Array Value} (h : At w g t cs) : At w.drew g t cs := h
theorem At.drewN {w : World} {g : Nat} {t : TypeId} {cs : Array Value} (h : At w g t cs) (n : Nat) : At (w.drewN n) g t cs := h
theorem At.alloc {w : World} {g : Nat} {t : TypeId} {cs : Array Value} (h : At w g t cs) (o : Obj) : At (w.alloc o) g t cs := (Below.heap_alloc w o g h.lt).trans h
theorem At.set {w : World} {g : Nat} {t : TypeId} {cs : Array Value} (h : At w g t cs) (i : Nat) (u : Value) : At (w.setCell ⟨g, i, none⟩ u) g t (cs.setIfInBounds i u) := by
  unfold At at h ⊢
  simp [World.setCell, Array.getElem?_modify, h]
theorem At.far {w : World} {g : Nat} {t : TypeId} {cs : Array Value} (h : At w g t cs) {p : Addr} (hp : g ≠ p.block) (u : Value) : At (w.setCell p u) g t cs := (Below.heap_setCell w p u g hp).trans h
theorem At.below {w w' : World} {g B : Nat} {t : TypeId} {cs : Array Value} (h : At w g t cs) (hb : Below B w w') (hg : g < B) : At w' g t cs := (hb.block g hg).trans h
/-- What is told of a slice of integers that came in (as the guide's shell tells it). -/
def IsRow (k : IntKind) (w : World) (a : Option Addr) (len cap : Nat) (zs : List Int) : Prop :=
  (a = none ∧ len = 0 ∧ cap = 0 ∧ zs = []) ∨
  ∃ x, a = some x ∧ len ≤ cap ∧ cap ≤ maxLen ∧ zs.length = cap ∧ (∀ i, i < zs.length → w.cell? (x.add i) = some (.int k (zs.getD i 0))) ∧ ∀ n ∈ zs, (Lit.int k n).wf = true
def IsBools (w : World) (a : Option Addr) (len cap : Nat) (zs : List Bool) : Prop :=
  (a = none ∧ len = 0 ∧ cap = 0 ∧ zs = []) ∨
  ∃ x, a = some x ∧ len ≤ cap ∧ cap ≤ maxLen ∧ zs.length = cap ∧ (∀ i, i < zs.length → w.cell? (x.add i) = some (.bool (zs.getD i false)))
def IsStrs (w : World) (a : Option Addr) (len cap : Nat) (zs : List ByteArray) : Prop :=
  (a = none ∧ len = 0 ∧ cap = 0 ∧ zs = []) ∨
  ∃ x, a = some x ∧ len ≤ cap ∧ cap ≤ maxLen ∧ zs.length = cap ∧ (∀ i, i < zs.length → w.cell? (x.add i) = some (.string (zs.getD i ByteArray.empty))) ∧ ∀ n ∈ zs, n.size ≤ maxLen
theorem wf_u8 {a : Int} (h : (Lit.int .u8 a).wf = true) : 0 ≤ a ∧ a ≤ 255 := by
  have hmin : IntKind.u8.min = 0 := rfl
  have hmax : IntKind.u8.max = 255 := rfl
  simp only [Lit.wf, Bool.and_eq_true, decide_eq_true_eq] at h
  exact ⟨by omega, by omega⟩
theorem wf_u16 {a : Int} (h : (Lit.int .u16 a).wf = true) : 0 ≤ a ∧ a ≤ 65535 := by
  have hmin : IntKind.u16.min = 0 := rfl
  have hmax : IntKind.u16.max = 65535 := rfl
  simp only [Lit.wf, Bool.and_eq_true, decide_eq_true_eq] at h
  exact ⟨by omega, by omega⟩
theorem wf_u32 {a : Int} (h : (Lit.int .u32 a).wf = true) : 0 ≤ a ∧ a ≤ 4294967295 := by
  have hmin : IntKind.u32.min = 0 := rfl
  have hmax : IntKind.u32.max = 4294967295 := rfl
  simp only [Lit.wf, Bool.and_eq_true, decide_eq_true_eq] at h
  exact ⟨by omega, by omega⟩
theorem wf_i8 {a : Int} (h : (Lit.int .i8 a).wf = true) : -128 ≤ a ∧ a ≤ 127 := by
  have hmin : IntKind.i8.min = -128 := rfl
  have hmax : IntKind.i8.max = 127 := rfl
  simp only [Lit.wf, Bool.and_eq_true, decide_eq_true_eq] at h
  exact ⟨by omega, by omega⟩
theorem wf_i32 {a : Int} (h : (Lit.int .i32 a).wf = true) : -2147483648 ≤ a ∧ a ≤ 2147483647 := by
  have hmin : IntKind.i32.min = -2147483648 := rfl
  have hmax : IntKind.i32.max = 2147483647 := rfl
  simp only [Lit.wf, Bool.and_eq_true, decide_eq_true_eq] at h
  exact ⟨by omega, by omega⟩
theorem wf_i64 {a : Int} (h : (Lit.int .i64 a).wf = true) : -9223372036854775808 ≤ a ∧ a ≤ 9223372036854775807 := by
  have hmin : IntKind.i64.min = -9223372036854775808 := rfl
  have hmax : IntKind.i64.max = 9223372036854775807 := rfl
  simp only [Lit.wf, Bool.and_eq_true, decide_eq_true_eq] at h
  exact ⟨by omega, by omega⟩
theorem wf_u64 {a : Int} (h : (Lit.int .u64 a).wf = true) : 0 ≤ a ∧ a ≤ 18446744073709551615 := by
  have hmin : IntKind.u64.min = 0 := rfl
  have hmax : IntKind.u64.max = 18446744073709551615 := rfl
  simp only [Lit.wf, Bool.and_eq_true, decide_eq_true_eq] at h
  exact ⟨by omega, by omega⟩
end Go.Proofs.Ytjnffbnipjkibaa
