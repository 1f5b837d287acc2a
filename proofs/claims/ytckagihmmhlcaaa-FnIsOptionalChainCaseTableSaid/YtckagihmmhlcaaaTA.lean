/- Proved here: what a type assertion with comma-ok to each pointer type of this program answers (own lemmas; no condition). -/
import Derived.Test.YtckagihmmhlcaaaProg
import Derived.WalkKit
namespace Go.Proofs.Ytckagihmmhlcaaa

theorem ta_gen {P : Program} {c e : TypeId} (hu : P.underlying c = some (.pointer e)) (hz : ∀ w, (zeroValue c).run P w = .ok (.pointer none) w) (t : TypeId) (v : Value) (xT : TypeId) (w : World) :
    (Instr.typeAssert (.iface t v) xT c true).run P w = .ok (.tuple #[if t = c then v else .pointer none, .bool (decide (t = c))]) w := by
  by_cases h : t = c
  · subst h
    simp [Instr.typeAssert, run_underlying hu]
  · simp [Instr.typeAssert, run_underlying hu, h, hz]
theorem ta_nil {P : Program} {c e : TypeId} (hu : P.underlying c = some (.pointer e)) (hz : ∀ w, (zeroValue c).run P w = .ok (.pointer none) w) (xT : TypeId) (w : World) :
    (Instr.typeAssert .nilIface xT c true).run P w = .ok (.tuple #[.pointer none, .bool false]) w := by
  simp [Instr.typeAssert, run_underlying hu, hz]
theorem ta_bare {P : Program} {c e : TypeId} (hu : P.underlying c = some (.pointer e)) (v : Value) (xT : TypeId) (w : World) :
    (Instr.typeAssert (.iface c v) xT c false).run P w = .ok v w := by
  simp [Instr.typeAssert, run_underlying hu]
theorem tz79 (w : World) : (zeroValue 79).run Try.prog w = .ok (.pointer none) w := by kernel_rfl
@[go_sem] theorem ta79 (t : TypeId) (v : Value) (xT : TypeId) (w : World) : (Instr.typeAssert (.iface t v) xT 79 true).run Try.prog w = .ok (.tuple #[if t = 79 then v else .pointer none, .bool (decide (t = 79))]) w := ta_gen Try.underlying79 tz79 t v xT w
@[go_sem] theorem tn79 (xT : TypeId) (w : World) : (Instr.typeAssert .nilIface xT 79 true).run Try.prog w = .ok (.tuple #[.pointer none, .bool false]) w := ta_nil Try.underlying79 tz79 xT w
@[go_sem] theorem tb79 (v : Value) (xT : TypeId) (w : World) : (Instr.typeAssert (.iface 79 v) xT 79 false).run Try.prog w = .ok v w := ta_bare Try.underlying79 v xT w
theorem tz83 (w : World) : (zeroValue 83).run Try.prog w = .ok (.pointer none) w := by kernel_rfl
@[go_sem] theorem ta83 (t : TypeId) (v : Value) (xT : TypeId) (w : World) : (Instr.typeAssert (.iface t v) xT 83 true).run Try.prog w = .ok (.tuple #[if t = 83 then v else .pointer none, .bool (decide (t = 83))]) w := ta_gen Try.underlying83 tz83 t v xT w
@[go_sem] theorem tn83 (xT : TypeId) (w : World) : (Instr.typeAssert .nilIface xT 83 true).run Try.prog w = .ok (.tuple #[.pointer none, .bool false]) w := ta_nil Try.underlying83 tz83 xT w
@[go_sem] theorem tb83 (v : Value) (xT : TypeId) (w : World) : (Instr.typeAssert (.iface 83 v) xT 83 false).run Try.prog w = .ok v w := ta_bare Try.underlying83 v xT w
theorem tz86 (w : World) : (zeroValue 86).run Try.prog w = .ok (.pointer none) w := by kernel_rfl
@[go_sem] theorem ta86 (t : TypeId) (v : Value) (xT : TypeId) (w : World) : (Instr.typeAssert (.iface t v) xT 86 true).run Try.prog w = .ok (.tuple #[if t = 86 then v else .pointer none, .bool (decide (t = 86))]) w := ta_gen Try.underlying86 tz86 t v xT w
@[go_sem] theorem tn86 (xT : TypeId) (w : World) : (Instr.typeAssert .nilIface xT 86 true).run Try.prog w = .ok (.tuple #[.pointer none, .bool false]) w := ta_nil Try.underlying86 tz86 xT w
@[go_sem] theorem tb86 (v : Value) (xT : TypeId) (w : World) : (Instr.typeAssert (.iface 86 v) xT 86 false).run Try.prog w = .ok v w := ta_bare Try.underlying86 v xT w
theorem tz233 (w : World) : (zeroValue 233).run Try.prog w = .ok (.pointer none) w := by kernel_rfl
@[go_sem] theorem ta233 (t : TypeId) (v : Value) (xT : TypeId) (w : World) : (Instr.typeAssert (.iface t v) xT 233 true).run Try.prog w = .ok (.tuple #[if t = 233 then v else .pointer none, .bool (decide (t = 233))]) w := ta_gen Try.underlying233 tz233 t v xT w
@[go_sem] theorem tn233 (xT : TypeId) (w : World) : (Instr.typeAssert .nilIface xT 233 true).run Try.prog w = .ok (.tuple #[.pointer none, .bool false]) w := ta_nil Try.underlying233 tz233 xT w
@[go_sem] theorem tb233 (v : Value) (xT : TypeId) (w : World) : (Instr.typeAssert (.iface 233 v) xT 233 false).run Try.prog w = .ok v w := ta_bare Try.underlying233 v xT w
theorem tz236 (w : World) : (zeroValue 236).run Try.prog w = .ok (.pointer none) w := by kernel_rfl
@[go_sem] theorem ta236 (t : TypeId) (v : Value) (xT : TypeId) (w : World) : (Instr.typeAssert (.iface t v) xT 236 true).run Try.prog w = .ok (.tuple #[if t = 236 then v else .pointer none, .bool (decide (t = 236))]) w := ta_gen Try.underlying236 tz236 t v xT w
@[go_sem] theorem tn236 (xT : TypeId) (w : World) : (Instr.typeAssert .nilIface xT 236 true).run Try.prog w = .ok (.tuple #[.pointer none, .bool false]) w := ta_nil Try.underlying236 tz236 xT w
@[go_sem] theorem tb236 (v : Value) (xT : TypeId) (w : World) : (Instr.typeAssert (.iface 236 v) xT 236 false).run Try.prog w = .ok v w := ta_bare Try.underlying236 v xT w
theorem tz238 (w : World) : (zeroValue 238).run Try.prog w = .ok (.pointer none) w := by kernel_rfl
@[go_sem] theorem ta238 (t : TypeId) (v : Value) (xT : TypeId) (w : World) : (Instr.typeAssert (.iface t v) xT 238 true).run Try.prog w = .ok (.tuple #[if t = 238 then v else .pointer none, .bool (decide (t = 238))]) w := ta_gen Try.underlying238 tz238 t v xT w
@[go_sem] theorem tn238 (xT : TypeId) (w : World) : (Instr.typeAssert .nilIface xT 238 true).run Try.prog w = .ok (.tuple #[.pointer none, .bool false]) w := ta_nil Try.underlying238 tz238 xT w
@[go_sem] theorem tb238 (v : Value) (xT : TypeId) (w : World) : (Instr.typeAssert (.iface 238 v) xT 238 false).run Try.prog w = .ok v w := ta_bare Try.underlying238 v xT w
theorem tz241 (w : World) : (zeroValue 241).run Try.prog w = .ok (.pointer none) w := by kernel_rfl
@[go_sem] theorem ta241 (t : TypeId) (v : Value) (xT : TypeId) (w : World) : (Instr.typeAssert (.iface t v) xT 241 true).run Try.prog w = .ok (.tuple #[if t = 241 then v else .pointer none, .bool (decide (t = 241))]) w := ta_gen Try.underlying241 tz241 t v xT w
@[go_sem] theorem tn241 (xT : TypeId) (w : World) : (Instr.typeAssert .nilIface xT 241 true).run Try.prog w = .ok (.tuple #[.pointer none, .bool false]) w := ta_nil Try.underlying241 tz241 xT w
@[go_sem] theorem tb241 (v : Value) (xT : TypeId) (w : World) : (Instr.typeAssert (.iface 241 v) xT 241 false).run Try.prog w = .ok v w := ta_bare Try.underlying241 v xT w
end Go.Proofs.Ytckagihmmhlcaaa
