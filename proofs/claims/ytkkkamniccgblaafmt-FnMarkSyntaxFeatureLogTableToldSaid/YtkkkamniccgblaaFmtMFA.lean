/- Proved here: fmt.Sprintf at this program gives some string; small contracts. -/
import Derived.Test.YtkkkamniccgblaaFmtBase
import Derived.WalkKit
import Derived.WalkSpells
import Derived.WalkLawsBesides
import Derived.Lib.Hide
import Derived.Lib.SliceRun
import Derived.Deep.RegionWith
import Derived.Stop.CallBack
import Derived.Stop.IfaceNil
import GoSem.ClaimData
import Derived.Stop.Texts
import Derived.Stop.Told
import Derived.Stop.AnyFormat
import Derived.BigRegion
import Derived.StillTailTactics
namespace Go.Proofs.YtkkkamniccgblaaFmt
open Go.RowKit
set_option linter.unusedSimpArgs false
set_option linter.unusedVariables false

namespace MF
open Go.Extern.Stop Go.Extern.FmtStop Go.Stop
/-- What fmt.Sprintf gives: some string. -/
noncomputable def txt (f : ByteArray) (vs : List Value) (T : TypeId) (w : World) : ByteArray :=
  match (sprintf #[9, 330] #[9] #[.string f, .slice (some ⟨w.heap.size, 0, none⟩) vs.length vs.length]).run Tryf.prog (w.alloc (.cells vs.toArray T)) with
  | .ok (.string s) _ => s
  | _ => .empty
theorem run_text_some {P : Program} (name : String) (head : List (List UInt8)) (ops : List (List UInt8 × List UInt8)) (w : World) : ∃ s, (text name head ops).run P w = .ok (.string s) w.drew :=
  ⟨_, by simp [text, str, Question.forced]; rfl⟩
theorem sprintf_some {P : Program} (ps rs : Array TypeId) (f : ByteArray) (a : Value) (vs : List Value) (w : World)
    (hguard : (guard "fmt.Sprintf").run P w = .ok () w) (hcells : (cells a).run P w = .ok vs w)
    (hop : ∀ v ∈ vs, ∀ verb sharp, ∃ r, (operand "fmt.Sprintf" false verb sharp v).run P w = .ok r w)
    (hst : ∀ v ∈ vs, ∃ r, (strict "fmt.Sprintf" v).run P w = .ok r w) : ∃ s, (sprintf ps rs #[.string f, a]).run P w = .ok (.string s) w.drew := by
  have e : sprintf ps rs #[.string f, a] = (do
      guard "fmt.Sprintf"
      let vs ← cells a
      match printed? f vs.length with
      | some ps => text "fmt.Sprintf" [f.data.toList] (← readAll "fmt.Sprintf" false vs ps)
      | none => text "fmt.Sprintf" [f.data.toList] (← vs.mapM (strict "fmt.Sprintf"))) := rfl
  rw [e]
  simp only [Sem.run_bind, hguard, Result.andThen_ok, hcells]
  cases hp : printed? f vs.length with
  | some pl =>
    obtain ⟨ops, hops⟩ := run_readAll_ok "fmt.Sprintf" false vs hop pl (printed_lt f _ pl hp)
    obtain ⟨s, hs⟩ := run_text_some (P := P) "fmt.Sprintf" [f.data.toList] ops w
    exact ⟨s, by simp only [Sem.run_bind, hops, Result.andThen_ok]; exact hs⟩
  | none =>
    obtain ⟨ops, hops⟩ := run_mapM_ok (strict "fmt.Sprintf") vs hst
    obtain ⟨s, hs⟩ := run_text_some (P := P) "fmt.Sprintf" [f.data.toList] ops w
    exact ⟨s, by simp only [Sem.run_bind, hops, Result.andThen_ok]; exact hs⟩
theorem call16 (args : Array Value) (w : World) : (callFunc 16 args).run Tryf.prog w = ((sprintf #[9, 330] #[9] args).run Tryf.prog w).andThen fun v w' => .ok (.value v) w' :=
  run_callFunc_extern Tryf.func16 (by kernel_rfl) (by kernel_rfl) (by kernel_rfl) (by kernel_rfl) args w
theorem guardS (w : World) : (guard "fmt.Sprintf").run Tryf.prog w = .ok () w := by kernel_rfl
def Opd (v : Value) : Prop := (∃ s : ByteArray, v = .iface 9 (.string s)) ∨ ∃ n : Int, v = .iface 3 (.int .i64 n)
theorem info_ok {t : TypeId} (h : (Tryf.prog.info? t).map (fun i => decide (i.str ≠ "") && decide (i.methods.size = 0)) = some true) : ∃ info, Tryf.prog.info? t = some info ∧ info.str ≠ "" ∧ info.methods = #[] := by
  cases hi : Tryf.prog.info? t with
  | none => rw [hi] at h; simp at h
  | some info =>
    rw [hi] at h
    simp at h
    exact ⟨info, rfl, h.1, h.2⟩
theorem operand_any_string {P : Program} {w : World} {t : TypeId} {info : TypeInfo} (x : ByteArray) (hi : P.info? t = some info) (hs : info.str ≠ "") (hm : info.methods = #[]) (hu : P.underlying t = some .string)
    (name : String) (wrap : Bool) (verb : UInt8) (sharp : Bool) : ∃ r, (operand name wrap verb sharp (.iface t (.string x))).run P w = .ok r w := by
  by_cases h84 : (verb == 84) = true
  · exact ⟨(21 :: pack info.str.toUTF8.data.toList, []), by simp [operand, typeStr, typeInfo, hi, hs, h84]⟩
  · refine ⟨(12 :: pack info.str.toUTF8.data.toList, pack x.data.toList), ?_⟩
    simp [operand, typeStr, typeInfo, hi, hs, h84, underlying, hu, Go.Extern.FmtStop.shape, Go.Extern.FmtStop.depth, bare, hm, value, Value.cells]
theorem strict_any_string {P : Program} {w : World} {t : TypeId} {info : TypeInfo} (x : ByteArray) (hi : P.info? t = some info) (hs : info.str ≠ "") (hm : info.methods = #[]) (hu : P.underlying t = some .string)
    (name : String) : ∃ r, (strict name (.iface t (.string x))).run P w = .ok r w := by
  refine ⟨(12 :: pack info.str.toUTF8.data.toList, pack x.data.toList), ?_⟩
  simp [strict, typeStr, typeInfo, hi, hs, underlying, hu, Go.Extern.FmtStop.shape, Go.Extern.FmtStop.depth, bare, hm, value, Value.cells]
theorem opS (x : ByteArray) (name : String) (verb : UInt8) (sharp : Bool) (w : World) : ∃ r, (operand name false verb sharp (.iface 9 (.string x))).run Tryf.prog w = .ok r w := by
  obtain ⟨info, hi, hs, hm⟩ := info_ok (t := 9) (by kernel_rfl)
  exact operand_any_string x hi hs hm Tryf.underlying9 name false verb sharp
theorem stS (x : ByteArray) (name : String) (w : World) : ∃ r, (strict name (.iface 9 (.string x))).run Tryf.prog w = .ok r w := by
  obtain ⟨info, hi, hs, hm⟩ := info_ok (t := 9) (by kernel_rfl)
  exact strict_any_string x hi hs hm Tryf.underlying9 name
theorem opI (n : Int) (name : String) (verb : UInt8) (sharp : Bool) (w : World) : ∃ r, (operand name false verb sharp (.iface 3 (.int .i64 n))).run Tryf.prog w = .ok r w := by
  obtain ⟨info, hi, hs, hm⟩ := info_ok (t := 3) (by kernel_rfl)
  exact operand_any_int n hi hs hm Tryf.underlying3 name false verb sharp
theorem stI (n : Int) (name : String) (w : World) : ∃ r, (strict name (.iface 3 (.int .i64 n))).run Tryf.prog w = .ok r w := by
  obtain ⟨info, hi, hs, hm⟩ := info_ok (t := 3) (by kernel_rfl)
  exact strict_any_int n hi hs hm Tryf.underlying3 name
theorem At.cellAdd {w : World} {g : Nat} {t : TypeId} {cs : Array Value} (h : At w g t cs) (j : Nat) : w.cell? (Addr.add ⟨g, 0, none⟩ j) = cs[j]? := by
  have : (Addr.add ⟨g, 0, none⟩ j) = ⟨g, j, none⟩ := by simp [Addr.add] <;> (intro h; subst h; rfl)
  rw [this]; exact h.cell j
theorem spr (f : ByteArray) (vs : List Value) (T : TypeId) (w : World) (hv : ∀ v ∈ vs, Opd v) (hnn : vs.length < 2 ^ 62) :
    (callFunc 16 #[.string f, .slice (some ⟨w.heap.size, 0, none⟩) vs.length vs.length]).run Tryf.prog (w.alloc (.cells vs.toArray T)) = .ok (.value (.string (txt f vs T w))) (w.alloc (.cells vs.toArray T)).drew := by
  have hc : (cells (.slice (some ⟨w.heap.size, 0, none⟩) vs.length vs.length)).run Tryf.prog (w.alloc (.cells vs.toArray T)) = .ok vs (w.alloc (.cells vs.toArray T)) := by
    have := run_loadCells_list (P := Tryf.prog) (w := w.alloc (.cells vs.toArray T)) ⟨w.heap.size, 0, none⟩ vs (fun j v hj => by rw [At.cellAdd (At.new w T vs.toArray) j]; simpa using hj)
    simp [cells, this]
  obtain ⟨s, hs⟩ := sprintf_some (P := Tryf.prog) #[9, 330] #[9] f _ vs _ (guardS _) hc
    (fun v h verb sharp => by rcases hv v h with ⟨x, rfl⟩ | ⟨n, rfl⟩; exact opS x _ verb sharp _; exact opI n _ verb sharp _)
    (fun v h => by rcases hv v h with ⟨x, rfl⟩ | ⟨n, rfl⟩; exact stS x _ _; exact stI n _ _)
  rw [call16, txt, hs]
  rfl
theorem spr1 (f s : ByteArray) (T : TypeId) (H : Nat) (w : World) (hH : H = w.heap.size) : (callFunc 16 #[.string f, .slice (some ⟨H, 0, none⟩) 1 1]).run Tryf.prog (w.alloc (.cells #[.iface 9 (.string s)] T)) = .ok (.value (.string (txt f [.iface 9 (.string s)] T w))) (w.alloc (.cells #[.iface 9 (.string s)] T)).drew := by
  subst hH
  exact spr f [.iface 9 (.string s)] T w (by simp [Opd]) (by simp)
theorem spr2 (f s s2 : ByteArray) (T : TypeId) (H : Nat) (w : World) (hH : H = w.heap.size) : (callFunc 16 #[.string f, .slice (some ⟨H, 0, none⟩) 2 2]).run Tryf.prog (w.alloc (.cells #[.iface 9 (.string s), .iface 9 (.string s2)] T)) = .ok (.value (.string (txt f [.iface 9 (.string s), .iface 9 (.string s2)] T w))) (w.alloc (.cells #[.iface 9 (.string s), .iface 9 (.string s2)] T)).drew := by
  subst hH
  exact spr f [.iface 9 (.string s), .iface 9 (.string s2)] T w (by simp [Opd]) (by simp)
theorem spr2i (f s2 : ByteArray) (n : Int) (T : TypeId) (H : Nat) (w : World) (hH : H = w.heap.size) : (callFunc 16 #[.string f, .slice (some ⟨H, 0, none⟩) 2 2]).run Tryf.prog (w.alloc (.cells #[.iface 3 (.int .i64 n), .iface 9 (.string s2)] T)) = .ok (.value (.string (txt f [.iface 3 (.int .i64 n), .iface 9 (.string s2)] T w))) (w.alloc (.cells #[.iface 3 (.int .i64 n), .iface 9 (.string s2)] T)).drew := by
  subst hH
  exact spr f [.iface 3 (.int .i64 n), .iface 9 (.string s2)] T w (by simp [Opd]) (by simp)
theorem spr3 (f s s2 s3 : ByteArray) (T : TypeId) (H : Nat) (w : World) (hH : H = w.heap.size) : (callFunc 16 #[.string f, .slice (some ⟨H, 0, none⟩) 3 3]).run Tryf.prog (w.alloc (.cells #[.iface 9 (.string s), .iface 9 (.string s2), .iface 9 (.string s3)] T)) = .ok (.value (.string (txt f [.iface 9 (.string s), .iface 9 (.string s2), .iface 9 (.string s3)] T w))) (w.alloc (.cells #[.iface 9 (.string s), .iface 9 (.string s2), .iface 9 (.string s3)] T)).drew := by
  subst hH
  exact spr f [.iface 9 (.string s), .iface 9 (.string s2), .iface 9 (.string s3)] T w (by simp [Opd]) (by simp)
end MF
end Go.Proofs.YtkkkamniccgblaaFmt
