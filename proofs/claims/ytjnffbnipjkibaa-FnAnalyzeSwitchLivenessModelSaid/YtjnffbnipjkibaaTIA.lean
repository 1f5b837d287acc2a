/- Proved here: the statements that the law lays, by their code. No condition. -/
import Derived.Test.YtjnffbnipjkibaaBase
import Derived.WalkKit
import Derived.WalkSpells
import Derived.WalkLawsBesides
import Derived.Lib.Hide
import Derived.Lib.SliceRun
import Derived.Deep.RegionWith
import Derived.OwnWalk
import Derived.Laws.OwnMore
import Derived.Deep.AppendLies
namespace Go.Proofs.Ytjnffbnipjkibaa
open Go.RowKit
set_option linter.unusedSimpArgs false
set_option linter.unusedVariables false

/-- No block of w from B on has changed. -/
def Ex (B : Nat) (w W : World) : Prop := w.heap.size ≤ W.heap.size ∧ ∀ b, B ≤ b → b < w.heap.size → W.heap[b]? = w.heap[b]?
theorem Ex.refl (B : Nat) (w : World) : Ex B w w := ⟨Nat.le_refl _, fun _ _ _ => rfl⟩
theorem Ex.trans {B : Nat} {a b c : World} (h1 : Ex B a b) (h2 : Ex B b c) : Ex B a c := ⟨Nat.le_trans h1.1 h2.1, fun k hk hg => (h2.2 k hk (Nat.lt_of_lt_of_le hg h1.1)).trans (h1.2 k hk hg)⟩
theorem Ex.up {B B' : Nat} {a b : World} (h : Ex B a b) (hb : B ≤ B') : Ex B' a b := ⟨h.1, fun k hk hg => h.2 k (Nat.le_trans hb hk) hg⟩
theorem Ex.of {a b : World} (h : Below a.heap.size a b) (B : Nat) : Ex B a b := ⟨h.size, fun k _ hk => h.block k hk⟩
theorem Ex.alloc {B : Nat} {a b : World} (h : Ex B a b) (o : Obj) : Ex B a (b.alloc o) := h.trans ⟨by simp, fun k _ hk => Below.heap_alloc b o k hk⟩
theorem Ex.set {B g : Nat} {a b : World} (h : Ex B a b) (hg : g < B) (i : Nat) (v : Value) : Ex B a (b.setCell ⟨g, i, none⟩ v) := h.trans ⟨by simp [World.setCell], fun k hk _ => Below.heap_setCell b ⟨g, i, none⟩ v k (by simp; omega)⟩
theorem Ex.grown {B : Nat} {a b c : World} {row : Option Nat} (h : Ex B a b) (hg : b.grownBy c row) (hr : ∀ k, row = some k → k < B) : Ex B a c := h.trans ⟨hg.size, fun k hk hl => hg.block k hl (fun e => by have := hr k e.symm; omega)⟩
theorem Ex.cell {B b o : Nat} {w W : World} {v : Value} (h : Ex B w W) (hb : B ≤ b) (hc : w.cell? ⟨b, o, none⟩ = some v) : W.cell? ⟨b, o, none⟩ = some v :=
  (World.cell?_of_block (a := ⟨b, o, none⟩) (h.2 b hb (World.block_lt_of_cell? _ _ hc))).trans hc
theorem Ex.own {B B2 R : Nat} {w W : World} {e : TypeId} {sz n c m : Nat} {xs : List Value} (h : Ex B w W) (hb : B ≤ R) (ho : w.ownsRow B2 e sz (.slice (some ⟨R, 0, none⟩) n c) m xs) : W.ownsRow B2 e sz (.slice (some ⟨R, 0, none⟩) n c) m xs := by
  refine ⟨ho.1, ?_⟩
  rcases ho.2 with hn | ⟨g, cap, cur, hv, h1, hg, rest⟩
  · exact .inl hn
  · refine .inr ⟨g, cap, cur, hv, h1, ?_, rest⟩
    simp only [Value.slice.injEq, Option.some.injEq, Addr.mk.injEq] at hv
    obtain ⟨⟨rfl, _⟩, _⟩ := hv
    rw [h.2 R hb (Array.getElem?_eq_some_iff.1 hg).1]
    exact hg
/-- The datum v of a statement with the code c, in blocks from B on. -/
def St (B : Nat) (w : World) (c : Int) (v : Value) : Prop :=
  ∃ b, B ≤ b ∧ b < w.heap.size ∧ ((c = 0 ∧ v = .iface 77 (.pointer (some ⟨b, 0, none⟩))) ∨ (c = 1 ∧ v = .iface 78 (.pointer (some ⟨b, 0, none⟩))) ∨ (c = 2 ∧ v = .iface 79 (.pointer (some ⟨b, 0, none⟩))) ∨ (c = 3 ∧ v = .iface 80 (.pointer (some ⟨b, 0, none⟩))) ∨ (c = 4 ∧ v = .iface 81 (.pointer (some ⟨b, 0, none⟩))) ∨ (c = 5 ∧ v = .iface 82 (.pointer (some ⟨b, 0, none⟩))) ∨ (c = 6 ∧ v = .iface 83 (.pointer (some ⟨b, 0, none⟩))) ∨ (c = 7 ∧ v = .iface 84 (.pointer (some ⟨b, 0, none⟩))) ∨ (c = 8 ∧ v = .iface 85 (.pointer (some ⟨b, 0, none⟩)) ∧ w.cell? ⟨b, 1, none⟩ = some (.int .u8 0)) ∨ (c = 9 ∧ v = .iface 85 (.pointer (some ⟨b, 0, none⟩)) ∧ w.cell? ⟨b, 1, none⟩ = some (.int .u8 1)) ∨ (c = 10 ∧ v = .iface 85 (.pointer (some ⟨b, 0, none⟩)) ∧ w.cell? ⟨b, 1, none⟩ = some (.int .u8 2)) ∨ (c = 11 ∧ v = .iface 90 (.pointer (some ⟨b, 0, none⟩)) ∧ w.cell? ⟨b, 0, none⟩ = some (.pointer none)) ∨ (c = 12 ∧ v = .iface 90 (.pointer (some ⟨b, 0, none⟩)) ∧ ∃ x, w.cell? ⟨b, 0, none⟩ = some (.pointer (some x))) ∨ (c = 13 ∧ v = .iface 129 (.pointer (some ⟨b, 0, none⟩))))
theorem St.ex {B : Nat} {w w' : World} {c : Int} {v : Value} (h : St B w c v) (he : Ex B w w') : St B w' c v := by
  obtain ⟨b, h1, h2, h3⟩ := h
  refine ⟨b, h1, Nat.lt_of_lt_of_le h2 he.1, ?_⟩
  rcases h3 with h | h | h | h | h | h | h | h | h | h | h | h | h | h
  · exact .inl h
  · exact .inr (.inl h)
  · exact .inr (.inr (.inl h))
  · exact .inr (.inr (.inr (.inl h)))
  · exact .inr (.inr (.inr (.inr (.inl h))))
  · exact .inr (.inr (.inr (.inr (.inr (.inl h)))))
  · exact .inr (.inr (.inr (.inr (.inr (.inr (.inl h))))))
  · exact .inr (.inr (.inr (.inr (.inr (.inr (.inr (.inl h)))))))
  · exact .inr (.inr (.inr (.inr (.inr (.inr (.inr (.inr (.inl ⟨h.1, h.2.1, he.cell h1 h.2.2⟩))))))))
  · exact .inr (.inr (.inr (.inr (.inr (.inr (.inr (.inr (.inr (.inl ⟨h.1, h.2.1, he.cell h1 h.2.2⟩)))))))))
  · exact .inr (.inr (.inr (.inr (.inr (.inr (.inr (.inr (.inr (.inr (.inl ⟨h.1, h.2.1, he.cell h1 h.2.2⟩))))))))))
  · exact .inr (.inr (.inr (.inr (.inr (.inr (.inr (.inr (.inr (.inr (.inr (.inl ⟨h.1, h.2.1, he.cell h1 h.2.2⟩)))))))))))
  · exact .inr (.inr (.inr (.inr (.inr (.inr (.inr (.inr (.inr (.inr (.inr (.inr (.inl ⟨h.1, h.2.1, h.2.2.imp fun x hx => he.cell h1 hx⟩))))))))))))
  · exact .inr (.inr (.inr (.inr (.inr (.inr (.inr (.inr (.inr (.inr (.inr (.inr (.inr (h)))))))))))))
theorem St.low {B B' : Nat} {w : World} {c : Int} {v : Value} (h : St B w c v) (hb : B' ≤ B) : St B' w c v := by
  obtain ⟨b, h1, h2⟩ := h
  exact ⟨b, Nat.le_trans hb h1, h2⟩
def StP (c l : Int) (w : World) (e : Ending) (w' : World) : Prop := ∃ v, e = .returned (.agg #[v, .int .i32 l]) ∧ St w.heap.size w' c v ∧ Below w.heap.size w w'
set_option maxRecDepth 100000 in
set_option maxHeartbeats 1000000 in
theorem s0 (l : Int) (w : World) : Calls Try.prog 33 #[.int .i32 l] w (StP 0 l w) := by
  go_enter Try.func33, Try.ntmps33
  go_wp2_with fail
  exact bodyPost_ret (v := .agg #[.iface 77 (.pointer (some ⟨w.heap.size + 1, 0, none⟩)), .int .i32 l]) (by simp [results, Try.results33, go_sem]) rfl ⟨_, rfl, ⟨w.heap.size + 1, by omega, by simp, .inl ⟨rfl, rfl⟩⟩, (by repeat (first | with_reducible exact Below.refl _ _ | (with_reducible refine Below.alloc ?_ (by simp; try omega) _) | (with_reducible refine Below.setCell ?_ (by simp; try omega) _)))⟩
set_option maxRecDepth 100000 in
set_option maxHeartbeats 1000000 in
theorem s1 (l : Int) (w : World) : Calls Try.prog 34 #[.int .i32 l] w (StP 1 l w) := by
  go_enter Try.func34, Try.ntmps34
  go_wp2_with fail
  exact bodyPost_ret (v := .agg #[.iface 78 (.pointer (some ⟨w.heap.size + 1, 0, none⟩)), .int .i32 l]) (by simp [results, Try.results34, go_sem]) rfl ⟨_, rfl, ⟨w.heap.size + 1, by omega, by simp, .inr (.inl ⟨rfl, rfl⟩)⟩, (by repeat (first | with_reducible exact Below.refl _ _ | (with_reducible refine Below.alloc ?_ (by simp; try omega) _) | (with_reducible refine Below.setCell ?_ (by simp; try omega) _)))⟩
set_option maxRecDepth 100000 in
set_option maxHeartbeats 1000000 in
theorem s2 (l : Int) (w : World) : Calls Try.prog 35 #[.int .i32 l] w (StP 2 l w) := by
  go_enter Try.func35, Try.ntmps35
  go_wp2_with fail
  exact bodyPost_ret (v := .agg #[.iface 79 (.pointer (some ⟨w.heap.size + 1, 0, none⟩)), .int .i32 l]) (by simp [results, Try.results35, go_sem]) rfl ⟨_, rfl, ⟨w.heap.size + 1, by omega, by simp, .inr (.inr (.inl ⟨rfl, rfl⟩))⟩, (by repeat (first | with_reducible exact Below.refl _ _ | (with_reducible refine Below.alloc ?_ (by simp; try omega) _) | (with_reducible refine Below.setCell ?_ (by simp; try omega) _)))⟩
set_option maxRecDepth 100000 in
set_option maxHeartbeats 1000000 in
theorem s3 (l : Int) (w : World) : Calls Try.prog 36 #[.int .i32 l] w (StP 3 l w) := by
  go_enter Try.func36, Try.ntmps36
  go_wp2_with fail
  exact bodyPost_ret (v := .agg #[.iface 80 (.pointer (some ⟨w.heap.size + 1, 0, none⟩)), .int .i32 l]) (by simp [results, Try.results36, go_sem]) rfl ⟨_, rfl, ⟨w.heap.size + 1, by omega, by simp, .inr (.inr (.inr (.inl ⟨rfl, rfl⟩)))⟩, (by repeat (first | with_reducible exact Below.refl _ _ | (with_reducible refine Below.alloc ?_ (by simp; try omega) _) | (with_reducible refine Below.setCell ?_ (by simp; try omega) _)))⟩
set_option maxRecDepth 100000 in
set_option maxHeartbeats 1000000 in
theorem s4 (l : Int) (w : World) : Calls Try.prog 37 #[.int .i32 l] w (StP 4 l w) := by
  go_enter Try.func37, Try.ntmps37
  go_wp2_with fail
  exact bodyPost_ret (v := .agg #[.iface 81 (.pointer (some ⟨w.heap.size + 1, 0, none⟩)), .int .i32 l]) (by simp [results, Try.results37, go_sem]) rfl ⟨_, rfl, ⟨w.heap.size + 1, by omega, by simp, .inr (.inr (.inr (.inr (.inl ⟨rfl, rfl⟩))))⟩, (by repeat (first | with_reducible exact Below.refl _ _ | (with_reducible refine Below.alloc ?_ (by simp; try omega) _) | (with_reducible refine Below.setCell ?_ (by simp; try omega) _)))⟩
set_option maxRecDepth 100000 in
set_option maxHeartbeats 1000000 in
theorem s5 (l : Int) (w : World) : Calls Try.prog 38 #[.int .i32 l] w (StP 5 l w) := by
  go_enter Try.func38, Try.ntmps38
  go_wp2_with fail
  exact bodyPost_ret (v := .agg #[.iface 82 (.pointer (some ⟨w.heap.size + 1, 0, none⟩)), .int .i32 l]) (by simp [results, Try.results38, go_sem]) rfl ⟨_, rfl, ⟨w.heap.size + 1, by omega, by simp, .inr (.inr (.inr (.inr (.inr (.inl ⟨rfl, rfl⟩)))))⟩, (by repeat (first | with_reducible exact Below.refl _ _ | (with_reducible refine Below.alloc ?_ (by simp; try omega) _) | (with_reducible refine Below.setCell ?_ (by simp; try omega) _)))⟩
set_option maxRecDepth 100000 in
set_option maxHeartbeats 1000000 in
theorem s6 (l : Int) (w : World) : Calls Try.prog 39 #[.int .i32 l] w (StP 6 l w) := by
  go_enter Try.func39, Try.ntmps39
  go_wp2_with fail
  exact bodyPost_ret (v := .agg #[.iface 83 (.pointer (some ⟨w.heap.size + 1, 0, none⟩)), .int .i32 l]) (by simp [results, Try.results39, go_sem]) rfl ⟨_, rfl, ⟨w.heap.size + 1, by omega, by simp, .inr (.inr (.inr (.inr (.inr (.inr (.inl ⟨rfl, rfl⟩))))))⟩, (by repeat (first | with_reducible exact Below.refl _ _ | (with_reducible refine Below.alloc ?_ (by simp; try omega) _) | (with_reducible refine Below.setCell ?_ (by simp; try omega) _)))⟩
set_option maxRecDepth 100000 in
set_option maxHeartbeats 1000000 in
theorem s7 (l : Int) (w : World) : Calls Try.prog 40 #[.int .i32 l] w (StP 7 l w) := by
  go_enter Try.func40, Try.ntmps40
  go_wp2_with fail
  exact bodyPost_ret (v := .agg #[.iface 84 (.pointer (some ⟨w.heap.size + 1, 0, none⟩)), .int .i32 l]) (by simp [results, Try.results40, go_sem]) rfl ⟨_, rfl, ⟨w.heap.size + 1, by omega, by simp, .inr (.inr (.inr (.inr (.inr (.inr (.inr (.inl ⟨rfl, rfl⟩)))))))⟩, (by repeat (first | with_reducible exact Below.refl _ _ | (with_reducible refine Below.alloc ?_ (by simp; try omega) _) | (with_reducible refine Below.setCell ?_ (by simp; try omega) _)))⟩
set_option maxRecDepth 100000 in
set_option maxHeartbeats 1000000 in
theorem s8 (l : Int) (w : World) : Calls Try.prog 41 #[.int .i32 l] w (StP 8 l w) := by
  go_enter Try.func41, Try.ntmps41
  go_wp2_with fail
  exact bodyPost_ret (v := .agg #[.iface 85 (.pointer (some ⟨w.heap.size + 1, 0, none⟩)), .int .i32 l]) (by simp [results, Try.results41, go_sem]) rfl ⟨_, rfl, ⟨w.heap.size + 1, by omega, by simp, .inr (.inr (.inr (.inr (.inr (.inr (.inr (.inr (.inl ⟨rfl, rfl, by simp [go_sem]⟩))))))))⟩, (by repeat (first | with_reducible exact Below.refl _ _ | (with_reducible refine Below.alloc ?_ (by simp; try omega) _) | (with_reducible refine Below.setCell ?_ (by simp; try omega) _)))⟩
set_option maxRecDepth 100000 in
set_option maxHeartbeats 1000000 in
theorem s9 (l : Int) (w : World) : Calls Try.prog 42 #[.int .i32 l] w (StP 9 l w) := by
  go_enter Try.func42, Try.ntmps42
  go_wp2_with fail
  exact bodyPost_ret (v := .agg #[.iface 85 (.pointer (some ⟨w.heap.size + 1, 0, none⟩)), .int .i32 l]) (by simp [results, Try.results42, go_sem]) rfl ⟨_, rfl, ⟨w.heap.size + 1, by omega, by simp, .inr (.inr (.inr (.inr (.inr (.inr (.inr (.inr (.inr (.inl ⟨rfl, rfl, by simp [go_sem]⟩)))))))))⟩, (by repeat (first | with_reducible exact Below.refl _ _ | (with_reducible refine Below.alloc ?_ (by simp; try omega) _) | (with_reducible refine Below.setCell ?_ (by simp; try omega) _)))⟩
set_option maxRecDepth 100000 in
set_option maxHeartbeats 1000000 in
theorem s10 (l : Int) (w : World) : Calls Try.prog 43 #[.int .i32 l] w (StP 10 l w) := by
  go_enter Try.func43, Try.ntmps43
  go_wp2_with fail
  exact bodyPost_ret (v := .agg #[.iface 85 (.pointer (some ⟨w.heap.size + 1, 0, none⟩)), .int .i32 l]) (by simp [results, Try.results43, go_sem]) rfl ⟨_, rfl, ⟨w.heap.size + 1, by omega, by simp, .inr (.inr (.inr (.inr (.inr (.inr (.inr (.inr (.inr (.inr (.inl ⟨rfl, rfl, by simp [go_sem]⟩))))))))))⟩, (by repeat (first | with_reducible exact Below.refl _ _ | (with_reducible refine Below.alloc ?_ (by simp; try omega) _) | (with_reducible refine Below.setCell ?_ (by simp; try omega) _)))⟩
set_option maxRecDepth 100000 in
set_option maxHeartbeats 1000000 in
theorem s11 (l : Int) (w : World) : Calls Try.prog 44 #[.int .i32 l] w (StP 11 l w) := by
  go_enter Try.func44, Try.ntmps44
  go_wp2_with fail
  exact bodyPost_ret (v := .agg #[.iface 90 (.pointer (some ⟨w.heap.size + 1, 0, none⟩)), .int .i32 l]) (by simp [results, Try.results44, go_sem]) rfl ⟨_, rfl, ⟨w.heap.size + 1, by omega, by simp, .inr (.inr (.inr (.inr (.inr (.inr (.inr (.inr (.inr (.inr (.inr (.inl ⟨rfl, rfl, by simp [go_sem]⟩)))))))))))⟩, (by repeat (first | with_reducible exact Below.refl _ _ | (with_reducible refine Below.alloc ?_ (by simp; try omega) _) | (with_reducible refine Below.setCell ?_ (by simp; try omega) _)))⟩
set_option maxRecDepth 100000 in
set_option maxHeartbeats 1000000 in
theorem s12 (l : Int) (w : World) : Calls Try.prog 45 #[.int .i32 l] w (StP 12 l w) := by
  go_enter Try.func45, Try.ntmps45
  go_wp2_with fail
  exact bodyPost_ret (v := .agg #[.iface 90 (.pointer (some ⟨w.heap.size + 2, 0, none⟩)), .int .i32 l]) (by simp [results, Try.results45, go_sem]) rfl ⟨_, rfl, ⟨w.heap.size + 2, by omega, by simp, .inr (.inr (.inr (.inr (.inr (.inr (.inr (.inr (.inr (.inr (.inr (.inr (.inl ⟨rfl, rfl, _, by simp [go_sem]; rfl⟩))))))))))))⟩, (by repeat (first | with_reducible exact Below.refl _ _ | (with_reducible refine Below.alloc ?_ (by simp; try omega) _) | (with_reducible refine Below.setCell ?_ (by simp; try omega) _)))⟩
set_option maxRecDepth 100000 in
set_option maxHeartbeats 1000000 in
theorem s13 (l : Int) (w : World) : Calls Try.prog 46 #[.int .i32 l] w (StP 13 l w) := by
  go_enter Try.func46, Try.ntmps46
  go_wp2_with fail
  exact bodyPost_ret (v := .agg #[.iface 129 (.pointer (some ⟨w.heap.size + 1, 0, none⟩)), .int .i32 l]) (by simp [results, Try.results46, go_sem]) rfl ⟨_, rfl, ⟨w.heap.size + 1, by omega, by simp, .inr (.inr (.inr (.inr (.inr (.inr (.inr (.inr (.inr (.inr (.inr (.inr (.inr (⟨rfl, rfl⟩)))))))))))))⟩, (by repeat (first | with_reducible exact Below.refl _ _ | (with_reducible refine Below.alloc ?_ (by simp; try omega) _) | (with_reducible refine Below.setCell ?_ (by simp; try omega) _)))⟩
set_option maxRecDepth 100000 in
set_option maxHeartbeats 4000000 in
theorem inl (c l : Int) (w : World) (h0 : 0 ≤ c) (h1 : c ≤ 13) : Calls Try.prog 25 #[.int .u8 c, .int .i32 l] w (StP c l w) := by
  have hc : c = 0 ∨ c = 1 ∨ c = 2 ∨ c = 3 ∨ c = 4 ∨ c = 5 ∨ c = 6 ∨ c = 7 ∨ c = 8 ∨ c = 9 ∨ c = 10 ∨ c = 11 ∨ c = 12 ∨ c = 13 := by omega
  rcases hc with rfl | rfl | rfl | rfl | rfl | rfl | rfl | rfl | rfl | rfl | rfl | rfl | rfl | rfl
  · have H := Lib.hid (s0 l (w.alloc (.cells #[.nilIface, .int .i32 0] 34)))
    go_enter Try.func25, Try.ntmps25
    go_wp2_with fail
    refine H.out.mono ?_
    rintro e w1 ⟨v, rfl, hs, hb⟩
    obtain ⟨b, hs1, hs2, hs3⟩ := id hs
    obtain ⟨t, rfl⟩ : ∃ t, v = .iface t (.pointer (some ⟨b, 0, none⟩)) := by
      rcases hs3 with h | h | h | h | h | h | h | h | h | h | h | h | h | h
      all_goals first | exact ⟨_, h.2⟩ | exact ⟨_, h.2.1⟩
    have HS := Lib.hid hs
    have HB := Lib.hid hb
    have e0 : w1.cell? ⟨w.heap.size, 0, none⟩ = some .nilIface := kept hb (by simp [go_sem])
    have e1 : w1.cell? ⟨w.heap.size, 1, none⟩ = some (.int .i32 0) := kept hb (by simp [go_sem])
    have f0 : w1.frozen? ⟨w.heap.size, 0, none⟩ = false := keptF hb (o := 0) (v := .nilIface) (by simp [go_sem]) (by simp [go_sem])
    have f1 : w1.frozen? ⟨w.heap.size, 1, none⟩ = false := keptF hb (o := 1) (v := .int .i32 0) (by simp [go_sem]) (by simp [go_sem])
    have lw : w.heap.size < w1.heap.size := World.block_lt_of_cell? _ _ e0
    have hsz : (w.alloc (.cells #[.nilIface, .int .i32 0] 34)).heap.size = w.heap.size + 1 := by simp
    clear hs hb hs3 hs2
    go_wp2_with fail
    exact bodyPost_ret (v := .agg #[.iface t (.pointer (some ⟨b, 0, none⟩)), .int .i32 l]) (by simp [results, Try.results25, go_sem, *]) rfl ⟨_, rfl, (HS.out.ex (((Ex.refl _ w1).set (by rw [hsz]; omega) _ _).set (by rw [hsz]; omega) _ _)).low (by rw [hsz]; omega), ((((Below.refl _ w).alloc (Nat.le_refl _) _).trans (HB.out.mono (by rw [hsz]; omega))).setCell (Nat.le_refl _) _).setCell (Nat.le_refl _) _⟩
  · have H := Lib.hid (s1 l (w.alloc (.cells #[.nilIface, .int .i32 0] 34)))
    go_enter Try.func25, Try.ntmps25
    go_wp2_with fail
    refine H.out.mono ?_
    rintro e w1 ⟨v, rfl, hs, hb⟩
    obtain ⟨b, hs1, hs2, hs3⟩ := id hs
    obtain ⟨t, rfl⟩ : ∃ t, v = .iface t (.pointer (some ⟨b, 0, none⟩)) := by
      rcases hs3 with h | h | h | h | h | h | h | h | h | h | h | h | h | h
      all_goals first | exact ⟨_, h.2⟩ | exact ⟨_, h.2.1⟩
    have HS := Lib.hid hs
    have HB := Lib.hid hb
    have e0 : w1.cell? ⟨w.heap.size, 0, none⟩ = some .nilIface := kept hb (by simp [go_sem])
    have e1 : w1.cell? ⟨w.heap.size, 1, none⟩ = some (.int .i32 0) := kept hb (by simp [go_sem])
    have f0 : w1.frozen? ⟨w.heap.size, 0, none⟩ = false := keptF hb (o := 0) (v := .nilIface) (by simp [go_sem]) (by simp [go_sem])
    have f1 : w1.frozen? ⟨w.heap.size, 1, none⟩ = false := keptF hb (o := 1) (v := .int .i32 0) (by simp [go_sem]) (by simp [go_sem])
    have lw : w.heap.size < w1.heap.size := World.block_lt_of_cell? _ _ e0
    have hsz : (w.alloc (.cells #[.nilIface, .int .i32 0] 34)).heap.size = w.heap.size + 1 := by simp
    clear hs hb hs3 hs2
    go_wp2_with fail
    exact bodyPost_ret (v := .agg #[.iface t (.pointer (some ⟨b, 0, none⟩)), .int .i32 l]) (by simp [results, Try.results25, go_sem, *]) rfl ⟨_, rfl, (HS.out.ex (((Ex.refl _ w1).set (by rw [hsz]; omega) _ _).set (by rw [hsz]; omega) _ _)).low (by rw [hsz]; omega), ((((Below.refl _ w).alloc (Nat.le_refl _) _).trans (HB.out.mono (by rw [hsz]; omega))).setCell (Nat.le_refl _) _).setCell (Nat.le_refl _) _⟩
  · have H := Lib.hid (s2 l (w.alloc (.cells #[.nilIface, .int .i32 0] 34)))
    go_enter Try.func25, Try.ntmps25
    go_wp2_with fail
    refine H.out.mono ?_
    rintro e w1 ⟨v, rfl, hs, hb⟩
    obtain ⟨b, hs1, hs2, hs3⟩ := id hs
    obtain ⟨t, rfl⟩ : ∃ t, v = .iface t (.pointer (some ⟨b, 0, none⟩)) := by
      rcases hs3 with h | h | h | h | h | h | h | h | h | h | h | h | h | h
      all_goals first | exact ⟨_, h.2⟩ | exact ⟨_, h.2.1⟩
    have HS := Lib.hid hs
    have HB := Lib.hid hb
    have e0 : w1.cell? ⟨w.heap.size, 0, none⟩ = some .nilIface := kept hb (by simp [go_sem])
    have e1 : w1.cell? ⟨w.heap.size, 1, none⟩ = some (.int .i32 0) := kept hb (by simp [go_sem])
    have f0 : w1.frozen? ⟨w.heap.size, 0, none⟩ = false := keptF hb (o := 0) (v := .nilIface) (by simp [go_sem]) (by simp [go_sem])
    have f1 : w1.frozen? ⟨w.heap.size, 1, none⟩ = false := keptF hb (o := 1) (v := .int .i32 0) (by simp [go_sem]) (by simp [go_sem])
    have lw : w.heap.size < w1.heap.size := World.block_lt_of_cell? _ _ e0
    have hsz : (w.alloc (.cells #[.nilIface, .int .i32 0] 34)).heap.size = w.heap.size + 1 := by simp
    clear hs hb hs3 hs2
    go_wp2_with fail
    exact bodyPost_ret (v := .agg #[.iface t (.pointer (some ⟨b, 0, none⟩)), .int .i32 l]) (by simp [results, Try.results25, go_sem, *]) rfl ⟨_, rfl, (HS.out.ex (((Ex.refl _ w1).set (by rw [hsz]; omega) _ _).set (by rw [hsz]; omega) _ _)).low (by rw [hsz]; omega), ((((Below.refl _ w).alloc (Nat.le_refl _) _).trans (HB.out.mono (by rw [hsz]; omega))).setCell (Nat.le_refl _) _).setCell (Nat.le_refl _) _⟩
  · have H := Lib.hid (s3 l (w.alloc (.cells #[.nilIface, .int .i32 0] 34)))
    go_enter Try.func25, Try.ntmps25
    go_wp2_with fail
    refine H.out.mono ?_
    rintro e w1 ⟨v, rfl, hs, hb⟩
    obtain ⟨b, hs1, hs2, hs3⟩ := id hs
    obtain ⟨t, rfl⟩ : ∃ t, v = .iface t (.pointer (some ⟨b, 0, none⟩)) := by
      rcases hs3 with h | h | h | h | h | h | h | h | h | h | h | h | h | h
      all_goals first | exact ⟨_, h.2⟩ | exact ⟨_, h.2.1⟩
    have HS := Lib.hid hs
    have HB := Lib.hid hb
    have e0 : w1.cell? ⟨w.heap.size, 0, none⟩ = some .nilIface := kept hb (by simp [go_sem])
    have e1 : w1.cell? ⟨w.heap.size, 1, none⟩ = some (.int .i32 0) := kept hb (by simp [go_sem])
    have f0 : w1.frozen? ⟨w.heap.size, 0, none⟩ = false := keptF hb (o := 0) (v := .nilIface) (by simp [go_sem]) (by simp [go_sem])
    have f1 : w1.frozen? ⟨w.heap.size, 1, none⟩ = false := keptF hb (o := 1) (v := .int .i32 0) (by simp [go_sem]) (by simp [go_sem])
    have lw : w.heap.size < w1.heap.size := World.block_lt_of_cell? _ _ e0
    have hsz : (w.alloc (.cells #[.nilIface, .int .i32 0] 34)).heap.size = w.heap.size + 1 := by simp
    clear hs hb hs3 hs2
    go_wp2_with fail
    exact bodyPost_ret (v := .agg #[.iface t (.pointer (some ⟨b, 0, none⟩)), .int .i32 l]) (by simp [results, Try.results25, go_sem, *]) rfl ⟨_, rfl, (HS.out.ex (((Ex.refl _ w1).set (by rw [hsz]; omega) _ _).set (by rw [hsz]; omega) _ _)).low (by rw [hsz]; omega), ((((Below.refl _ w).alloc (Nat.le_refl _) _).trans (HB.out.mono (by rw [hsz]; omega))).setCell (Nat.le_refl _) _).setCell (Nat.le_refl _) _⟩
  · have H := Lib.hid (s4 l (w.alloc (.cells #[.nilIface, .int .i32 0] 34)))
    go_enter Try.func25, Try.ntmps25
    go_wp2_with fail
    refine H.out.mono ?_
    rintro e w1 ⟨v, rfl, hs, hb⟩
    obtain ⟨b, hs1, hs2, hs3⟩ := id hs
    obtain ⟨t, rfl⟩ : ∃ t, v = .iface t (.pointer (some ⟨b, 0, none⟩)) := by
      rcases hs3 with h | h | h | h | h | h | h | h | h | h | h | h | h | h
      all_goals first | exact ⟨_, h.2⟩ | exact ⟨_, h.2.1⟩
    have HS := Lib.hid hs
    have HB := Lib.hid hb
    have e0 : w1.cell? ⟨w.heap.size, 0, none⟩ = some .nilIface := kept hb (by simp [go_sem])
    have e1 : w1.cell? ⟨w.heap.size, 1, none⟩ = some (.int .i32 0) := kept hb (by simp [go_sem])
    have f0 : w1.frozen? ⟨w.heap.size, 0, none⟩ = false := keptF hb (o := 0) (v := .nilIface) (by simp [go_sem]) (by simp [go_sem])
    have f1 : w1.frozen? ⟨w.heap.size, 1, none⟩ = false := keptF hb (o := 1) (v := .int .i32 0) (by simp [go_sem]) (by simp [go_sem])
    have lw : w.heap.size < w1.heap.size := World.block_lt_of_cell? _ _ e0
    have hsz : (w.alloc (.cells #[.nilIface, .int .i32 0] 34)).heap.size = w.heap.size + 1 := by simp
    clear hs hb hs3 hs2
    go_wp2_with fail
    exact bodyPost_ret (v := .agg #[.iface t (.pointer (some ⟨b, 0, none⟩)), .int .i32 l]) (by simp [results, Try.results25, go_sem, *]) rfl ⟨_, rfl, (HS.out.ex (((Ex.refl _ w1).set (by rw [hsz]; omega) _ _).set (by rw [hsz]; omega) _ _)).low (by rw [hsz]; omega), ((((Below.refl _ w).alloc (Nat.le_refl _) _).trans (HB.out.mono (by rw [hsz]; omega))).setCell (Nat.le_refl _) _).setCell (Nat.le_refl _) _⟩
  · have H := Lib.hid (s5 l (w.alloc (.cells #[.nilIface, .int .i32 0] 34)))
    go_enter Try.func25, Try.ntmps25
    go_wp2_with fail
    refine H.out.mono ?_
    rintro e w1 ⟨v, rfl, hs, hb⟩
    obtain ⟨b, hs1, hs2, hs3⟩ := id hs
    obtain ⟨t, rfl⟩ : ∃ t, v = .iface t (.pointer (some ⟨b, 0, none⟩)) := by
      rcases hs3 with h | h | h | h | h | h | h | h | h | h | h | h | h | h
      all_goals first | exact ⟨_, h.2⟩ | exact ⟨_, h.2.1⟩
    have HS := Lib.hid hs
    have HB := Lib.hid hb
    have e0 : w1.cell? ⟨w.heap.size, 0, none⟩ = some .nilIface := kept hb (by simp [go_sem])
    have e1 : w1.cell? ⟨w.heap.size, 1, none⟩ = some (.int .i32 0) := kept hb (by simp [go_sem])
    have f0 : w1.frozen? ⟨w.heap.size, 0, none⟩ = false := keptF hb (o := 0) (v := .nilIface) (by simp [go_sem]) (by simp [go_sem])
    have f1 : w1.frozen? ⟨w.heap.size, 1, none⟩ = false := keptF hb (o := 1) (v := .int .i32 0) (by simp [go_sem]) (by simp [go_sem])
    have lw : w.heap.size < w1.heap.size := World.block_lt_of_cell? _ _ e0
    have hsz : (w.alloc (.cells #[.nilIface, .int .i32 0] 34)).heap.size = w.heap.size + 1 := by simp
    clear hs hb hs3 hs2
    go_wp2_with fail
    exact bodyPost_ret (v := .agg #[.iface t (.pointer (some ⟨b, 0, none⟩)), .int .i32 l]) (by simp [results, Try.results25, go_sem, *]) rfl ⟨_, rfl, (HS.out.ex (((Ex.refl _ w1).set (by rw [hsz]; omega) _ _).set (by rw [hsz]; omega) _ _)).low (by rw [hsz]; omega), ((((Below.refl _ w).alloc (Nat.le_refl _) _).trans (HB.out.mono (by rw [hsz]; omega))).setCell (Nat.le_refl _) _).setCell (Nat.le_refl _) _⟩
  · have H := Lib.hid (s6 l (w.alloc (.cells #[.nilIface, .int .i32 0] 34)))
    go_enter Try.func25, Try.ntmps25
    go_wp2_with fail
    refine H.out.mono ?_
    rintro e w1 ⟨v, rfl, hs, hb⟩
    obtain ⟨b, hs1, hs2, hs3⟩ := id hs
    obtain ⟨t, rfl⟩ : ∃ t, v = .iface t (.pointer (some ⟨b, 0, none⟩)) := by
      rcases hs3 with h | h | h | h | h | h | h | h | h | h | h | h | h | h
      all_goals first | exact ⟨_, h.2⟩ | exact ⟨_, h.2.1⟩
    have HS := Lib.hid hs
    have HB := Lib.hid hb
    have e0 : w1.cell? ⟨w.heap.size, 0, none⟩ = some .nilIface := kept hb (by simp [go_sem])
    have e1 : w1.cell? ⟨w.heap.size, 1, none⟩ = some (.int .i32 0) := kept hb (by simp [go_sem])
    have f0 : w1.frozen? ⟨w.heap.size, 0, none⟩ = false := keptF hb (o := 0) (v := .nilIface) (by simp [go_sem]) (by simp [go_sem])
    have f1 : w1.frozen? ⟨w.heap.size, 1, none⟩ = false := keptF hb (o := 1) (v := .int .i32 0) (by simp [go_sem]) (by simp [go_sem])
    have lw : w.heap.size < w1.heap.size := World.block_lt_of_cell? _ _ e0
    have hsz : (w.alloc (.cells #[.nilIface, .int .i32 0] 34)).heap.size = w.heap.size + 1 := by simp
    clear hs hb hs3 hs2
    go_wp2_with fail
    exact bodyPost_ret (v := .agg #[.iface t (.pointer (some ⟨b, 0, none⟩)), .int .i32 l]) (by simp [results, Try.results25, go_sem, *]) rfl ⟨_, rfl, (HS.out.ex (((Ex.refl _ w1).set (by rw [hsz]; omega) _ _).set (by rw [hsz]; omega) _ _)).low (by rw [hsz]; omega), ((((Below.refl _ w).alloc (Nat.le_refl _) _).trans (HB.out.mono (by rw [hsz]; omega))).setCell (Nat.le_refl _) _).setCell (Nat.le_refl _) _⟩
  · have H := Lib.hid (s7 l (w.alloc (.cells #[.nilIface, .int .i32 0] 34)))
    go_enter Try.func25, Try.ntmps25
    go_wp2_with fail
    refine H.out.mono ?_
    rintro e w1 ⟨v, rfl, hs, hb⟩
    obtain ⟨b, hs1, hs2, hs3⟩ := id hs
    obtain ⟨t, rfl⟩ : ∃ t, v = .iface t (.pointer (some ⟨b, 0, none⟩)) := by
      rcases hs3 with h | h | h | h | h | h | h | h | h | h | h | h | h | h
      all_goals first | exact ⟨_, h.2⟩ | exact ⟨_, h.2.1⟩
    have HS := Lib.hid hs
    have HB := Lib.hid hb
    have e0 : w1.cell? ⟨w.heap.size, 0, none⟩ = some .nilIface := kept hb (by simp [go_sem])
    have e1 : w1.cell? ⟨w.heap.size, 1, none⟩ = some (.int .i32 0) := kept hb (by simp [go_sem])
    have f0 : w1.frozen? ⟨w.heap.size, 0, none⟩ = false := keptF hb (o := 0) (v := .nilIface) (by simp [go_sem]) (by simp [go_sem])
    have f1 : w1.frozen? ⟨w.heap.size, 1, none⟩ = false := keptF hb (o := 1) (v := .int .i32 0) (by simp [go_sem]) (by simp [go_sem])
    have lw : w.heap.size < w1.heap.size := World.block_lt_of_cell? _ _ e0
    have hsz : (w.alloc (.cells #[.nilIface, .int .i32 0] 34)).heap.size = w.heap.size + 1 := by simp
    clear hs hb hs3 hs2
    go_wp2_with fail
    exact bodyPost_ret (v := .agg #[.iface t (.pointer (some ⟨b, 0, none⟩)), .int .i32 l]) (by simp [results, Try.results25, go_sem, *]) rfl ⟨_, rfl, (HS.out.ex (((Ex.refl _ w1).set (by rw [hsz]; omega) _ _).set (by rw [hsz]; omega) _ _)).low (by rw [hsz]; omega), ((((Below.refl _ w).alloc (Nat.le_refl _) _).trans (HB.out.mono (by rw [hsz]; omega))).setCell (Nat.le_refl _) _).setCell (Nat.le_refl _) _⟩
  · have H := Lib.hid (s8 l (w.alloc (.cells #[.nilIface, .int .i32 0] 34)))
    go_enter Try.func25, Try.ntmps25
    go_wp2_with fail
    refine H.out.mono ?_
    rintro e w1 ⟨v, rfl, hs, hb⟩
    obtain ⟨b, hs1, hs2, hs3⟩ := id hs
    obtain ⟨t, rfl⟩ : ∃ t, v = .iface t (.pointer (some ⟨b, 0, none⟩)) := by
      rcases hs3 with h | h | h | h | h | h | h | h | h | h | h | h | h | h
      all_goals first | exact ⟨_, h.2⟩ | exact ⟨_, h.2.1⟩
    have HS := Lib.hid hs
    have HB := Lib.hid hb
    have e0 : w1.cell? ⟨w.heap.size, 0, none⟩ = some .nilIface := kept hb (by simp [go_sem])
    have e1 : w1.cell? ⟨w.heap.size, 1, none⟩ = some (.int .i32 0) := kept hb (by simp [go_sem])
    have f0 : w1.frozen? ⟨w.heap.size, 0, none⟩ = false := keptF hb (o := 0) (v := .nilIface) (by simp [go_sem]) (by simp [go_sem])
    have f1 : w1.frozen? ⟨w.heap.size, 1, none⟩ = false := keptF hb (o := 1) (v := .int .i32 0) (by simp [go_sem]) (by simp [go_sem])
    have lw : w.heap.size < w1.heap.size := World.block_lt_of_cell? _ _ e0
    have hsz : (w.alloc (.cells #[.nilIface, .int .i32 0] 34)).heap.size = w.heap.size + 1 := by simp
    clear hs hb hs3 hs2
    go_wp2_with fail
    exact bodyPost_ret (v := .agg #[.iface t (.pointer (some ⟨b, 0, none⟩)), .int .i32 l]) (by simp [results, Try.results25, go_sem, *]) rfl ⟨_, rfl, (HS.out.ex (((Ex.refl _ w1).set (by rw [hsz]; omega) _ _).set (by rw [hsz]; omega) _ _)).low (by rw [hsz]; omega), ((((Below.refl _ w).alloc (Nat.le_refl _) _).trans (HB.out.mono (by rw [hsz]; omega))).setCell (Nat.le_refl _) _).setCell (Nat.le_refl _) _⟩
  · have H := Lib.hid (s9 l (w.alloc (.cells #[.nilIface, .int .i32 0] 34)))
    go_enter Try.func25, Try.ntmps25
    go_wp2_with fail
    refine H.out.mono ?_
    rintro e w1 ⟨v, rfl, hs, hb⟩
    obtain ⟨b, hs1, hs2, hs3⟩ := id hs
    obtain ⟨t, rfl⟩ : ∃ t, v = .iface t (.pointer (some ⟨b, 0, none⟩)) := by
      rcases hs3 with h | h | h | h | h | h | h | h | h | h | h | h | h | h
      all_goals first | exact ⟨_, h.2⟩ | exact ⟨_, h.2.1⟩
    have HS := Lib.hid hs
    have HB := Lib.hid hb
    have e0 : w1.cell? ⟨w.heap.size, 0, none⟩ = some .nilIface := kept hb (by simp [go_sem])
    have e1 : w1.cell? ⟨w.heap.size, 1, none⟩ = some (.int .i32 0) := kept hb (by simp [go_sem])
    have f0 : w1.frozen? ⟨w.heap.size, 0, none⟩ = false := keptF hb (o := 0) (v := .nilIface) (by simp [go_sem]) (by simp [go_sem])
    have f1 : w1.frozen? ⟨w.heap.size, 1, none⟩ = false := keptF hb (o := 1) (v := .int .i32 0) (by simp [go_sem]) (by simp [go_sem])
    have lw : w.heap.size < w1.heap.size := World.block_lt_of_cell? _ _ e0
    have hsz : (w.alloc (.cells #[.nilIface, .int .i32 0] 34)).heap.size = w.heap.size + 1 := by simp
    clear hs hb hs3 hs2
    go_wp2_with fail
    exact bodyPost_ret (v := .agg #[.iface t (.pointer (some ⟨b, 0, none⟩)), .int .i32 l]) (by simp [results, Try.results25, go_sem, *]) rfl ⟨_, rfl, (HS.out.ex (((Ex.refl _ w1).set (by rw [hsz]; omega) _ _).set (by rw [hsz]; omega) _ _)).low (by rw [hsz]; omega), ((((Below.refl _ w).alloc (Nat.le_refl _) _).trans (HB.out.mono (by rw [hsz]; omega))).setCell (Nat.le_refl _) _).setCell (Nat.le_refl _) _⟩
  · have H := Lib.hid (s10 l (w.alloc (.cells #[.nilIface, .int .i32 0] 34)))
    go_enter Try.func25, Try.ntmps25
    go_wp2_with fail
    refine H.out.mono ?_
    rintro e w1 ⟨v, rfl, hs, hb⟩
    obtain ⟨b, hs1, hs2, hs3⟩ := id hs
    obtain ⟨t, rfl⟩ : ∃ t, v = .iface t (.pointer (some ⟨b, 0, none⟩)) := by
      rcases hs3 with h | h | h | h | h | h | h | h | h | h | h | h | h | h
      all_goals first | exact ⟨_, h.2⟩ | exact ⟨_, h.2.1⟩
    have HS := Lib.hid hs
    have HB := Lib.hid hb
    have e0 : w1.cell? ⟨w.heap.size, 0, none⟩ = some .nilIface := kept hb (by simp [go_sem])
    have e1 : w1.cell? ⟨w.heap.size, 1, none⟩ = some (.int .i32 0) := kept hb (by simp [go_sem])
    have f0 : w1.frozen? ⟨w.heap.size, 0, none⟩ = false := keptF hb (o := 0) (v := .nilIface) (by simp [go_sem]) (by simp [go_sem])
    have f1 : w1.frozen? ⟨w.heap.size, 1, none⟩ = false := keptF hb (o := 1) (v := .int .i32 0) (by simp [go_sem]) (by simp [go_sem])
    have lw : w.heap.size < w1.heap.size := World.block_lt_of_cell? _ _ e0
    have hsz : (w.alloc (.cells #[.nilIface, .int .i32 0] 34)).heap.size = w.heap.size + 1 := by simp
    clear hs hb hs3 hs2
    go_wp2_with fail
    exact bodyPost_ret (v := .agg #[.iface t (.pointer (some ⟨b, 0, none⟩)), .int .i32 l]) (by simp [results, Try.results25, go_sem, *]) rfl ⟨_, rfl, (HS.out.ex (((Ex.refl _ w1).set (by rw [hsz]; omega) _ _).set (by rw [hsz]; omega) _ _)).low (by rw [hsz]; omega), ((((Below.refl _ w).alloc (Nat.le_refl _) _).trans (HB.out.mono (by rw [hsz]; omega))).setCell (Nat.le_refl _) _).setCell (Nat.le_refl _) _⟩
  · have H := Lib.hid (s11 l (w.alloc (.cells #[.nilIface, .int .i32 0] 34)))
    go_enter Try.func25, Try.ntmps25
    go_wp2_with fail
    refine H.out.mono ?_
    rintro e w1 ⟨v, rfl, hs, hb⟩
    obtain ⟨b, hs1, hs2, hs3⟩ := id hs
    obtain ⟨t, rfl⟩ : ∃ t, v = .iface t (.pointer (some ⟨b, 0, none⟩)) := by
      rcases hs3 with h | h | h | h | h | h | h | h | h | h | h | h | h | h
      all_goals first | exact ⟨_, h.2⟩ | exact ⟨_, h.2.1⟩
    have HS := Lib.hid hs
    have HB := Lib.hid hb
    have e0 : w1.cell? ⟨w.heap.size, 0, none⟩ = some .nilIface := kept hb (by simp [go_sem])
    have e1 : w1.cell? ⟨w.heap.size, 1, none⟩ = some (.int .i32 0) := kept hb (by simp [go_sem])
    have f0 : w1.frozen? ⟨w.heap.size, 0, none⟩ = false := keptF hb (o := 0) (v := .nilIface) (by simp [go_sem]) (by simp [go_sem])
    have f1 : w1.frozen? ⟨w.heap.size, 1, none⟩ = false := keptF hb (o := 1) (v := .int .i32 0) (by simp [go_sem]) (by simp [go_sem])
    have lw : w.heap.size < w1.heap.size := World.block_lt_of_cell? _ _ e0
    have hsz : (w.alloc (.cells #[.nilIface, .int .i32 0] 34)).heap.size = w.heap.size + 1 := by simp
    clear hs hb hs3 hs2
    go_wp2_with fail
    exact bodyPost_ret (v := .agg #[.iface t (.pointer (some ⟨b, 0, none⟩)), .int .i32 l]) (by simp [results, Try.results25, go_sem, *]) rfl ⟨_, rfl, (HS.out.ex (((Ex.refl _ w1).set (by rw [hsz]; omega) _ _).set (by rw [hsz]; omega) _ _)).low (by rw [hsz]; omega), ((((Below.refl _ w).alloc (Nat.le_refl _) _).trans (HB.out.mono (by rw [hsz]; omega))).setCell (Nat.le_refl _) _).setCell (Nat.le_refl _) _⟩
  · have H := Lib.hid (s12 l (w.alloc (.cells #[.nilIface, .int .i32 0] 34)))
    go_enter Try.func25, Try.ntmps25
    go_wp2_with fail
    refine H.out.mono ?_
    rintro e w1 ⟨v, rfl, hs, hb⟩
    obtain ⟨b, hs1, hs2, hs3⟩ := id hs
    obtain ⟨t, rfl⟩ : ∃ t, v = .iface t (.pointer (some ⟨b, 0, none⟩)) := by
      rcases hs3 with h | h | h | h | h | h | h | h | h | h | h | h | h | h
      all_goals first | exact ⟨_, h.2⟩ | exact ⟨_, h.2.1⟩
    have HS := Lib.hid hs
    have HB := Lib.hid hb
    have e0 : w1.cell? ⟨w.heap.size, 0, none⟩ = some .nilIface := kept hb (by simp [go_sem])
    have e1 : w1.cell? ⟨w.heap.size, 1, none⟩ = some (.int .i32 0) := kept hb (by simp [go_sem])
    have f0 : w1.frozen? ⟨w.heap.size, 0, none⟩ = false := keptF hb (o := 0) (v := .nilIface) (by simp [go_sem]) (by simp [go_sem])
    have f1 : w1.frozen? ⟨w.heap.size, 1, none⟩ = false := keptF hb (o := 1) (v := .int .i32 0) (by simp [go_sem]) (by simp [go_sem])
    have lw : w.heap.size < w1.heap.size := World.block_lt_of_cell? _ _ e0
    have hsz : (w.alloc (.cells #[.nilIface, .int .i32 0] 34)).heap.size = w.heap.size + 1 := by simp
    clear hs hb hs3 hs2
    go_wp2_with fail
    exact bodyPost_ret (v := .agg #[.iface t (.pointer (some ⟨b, 0, none⟩)), .int .i32 l]) (by simp [results, Try.results25, go_sem, *]) rfl ⟨_, rfl, (HS.out.ex (((Ex.refl _ w1).set (by rw [hsz]; omega) _ _).set (by rw [hsz]; omega) _ _)).low (by rw [hsz]; omega), ((((Below.refl _ w).alloc (Nat.le_refl _) _).trans (HB.out.mono (by rw [hsz]; omega))).setCell (Nat.le_refl _) _).setCell (Nat.le_refl _) _⟩
  · have H := Lib.hid (s13 l (w.alloc (.cells #[.nilIface, .int .i32 0] 34)))
    go_enter Try.func25, Try.ntmps25
    go_wp2_with fail
    refine H.out.mono ?_
    rintro e w1 ⟨v, rfl, hs, hb⟩
    obtain ⟨b, hs1, hs2, hs3⟩ := id hs
    obtain ⟨t, rfl⟩ : ∃ t, v = .iface t (.pointer (some ⟨b, 0, none⟩)) := by
      rcases hs3 with h | h | h | h | h | h | h | h | h | h | h | h | h | h
      all_goals first | exact ⟨_, h.2⟩ | exact ⟨_, h.2.1⟩
    have HS := Lib.hid hs
    have HB := Lib.hid hb
    have e0 : w1.cell? ⟨w.heap.size, 0, none⟩ = some .nilIface := kept hb (by simp [go_sem])
    have e1 : w1.cell? ⟨w.heap.size, 1, none⟩ = some (.int .i32 0) := kept hb (by simp [go_sem])
    have f0 : w1.frozen? ⟨w.heap.size, 0, none⟩ = false := keptF hb (o := 0) (v := .nilIface) (by simp [go_sem]) (by simp [go_sem])
    have f1 : w1.frozen? ⟨w.heap.size, 1, none⟩ = false := keptF hb (o := 1) (v := .int .i32 0) (by simp [go_sem]) (by simp [go_sem])
    have lw : w.heap.size < w1.heap.size := World.block_lt_of_cell? _ _ e0
    have hsz : (w.alloc (.cells #[.nilIface, .int .i32 0] 34)).heap.size = w.heap.size + 1 := by simp
    clear hs hb hs3 hs2
    go_wp2_with fail
    exact bodyPost_ret (v := .agg #[.iface t (.pointer (some ⟨b, 0, none⟩)), .int .i32 l]) (by simp [results, Try.results25, go_sem, *]) rfl ⟨_, rfl, (HS.out.ex (((Ex.refl _ w1).set (by rw [hsz]; omega) _ _).set (by rw [hsz]; omega) _ _)).low (by rw [hsz]; omega), ((((Below.refl _ w).alloc (Nat.le_refl _) _).trans (HB.out.mono (by rw [hsz]; omega))).setCell (Nat.le_refl _) _).setCell (Nat.le_refl _) _⟩
end Go.Proofs.Ytjnffbnipjkibaa
