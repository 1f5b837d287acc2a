/- Proved here: the contract of pushScopeForParsePass. Conditions as stated. -/
import Derived.Test.YthgcchgpplblbaaFmtPSA
import Derived.Test.YthgcchgpplblbaaFmtAPX
import Derived.WalkKit
import Derived.WalkSpells
import Derived.WalkLawsBesides
import Derived.Lib.Hide
import Derived.Lib.SliceRun
import Derived.Deep.RegionWith
import Derived.OwnWalk
import Derived.Laws.OwnMore
import Derived.BigRegion
import Derived.Deep.QuietTactic
import Derived.BigQuiet
import Derived.Deep.AppendLies
import Derived.ArgAppend
import Derived.MapKept
import Derived.IntWalk
import Derived.Carry
namespace Go.Proofs.YthgcchgpplblbaaFmt
open Go.RowKit
set_option linter.unusedSimpArgs false
set_option linter.unusedVariables false
namespace PS

/-- A slice of pointers to scopes whose block is sound. -/
def ROW (w : World) (lo : Nat) (v : Value) (m : Nat) : Prop := ∃ a n c, v = .slice a n c ∧ n ≤ m ∧ ((a = none ∧ n = 0 ∧ c = 0) ∨ ∃ g cur, a = some ⟨g, 0, none⟩ ∧ lo ≤ g ∧ At w g 26 cur ∧ cur.size = c ∧ n ≤ c ∧ c ≤ maxLen)
def KR (w w' : World) : Prop := ∀ g cur, At w g 26 cur → ∃ cur', At w' g 26 cur' ∧ cur'.size = cur.size
theorem KR.refl (w : World) : KR w w := fun g cur h => ⟨cur, h, rfl⟩
theorem KR.trans {a b c : World} (h1 : KR a b) (h2 : KR b c) : KR a c := fun g cur h => by
  obtain ⟨c1, h3, h4⟩ := h1 g cur h
  obtain ⟨c2, h5, h6⟩ := h2 g c1 h3
  exact ⟨c2, h5, h6.trans h4⟩
theorem KR.same {a b : World} (h : ∀ g cur, At a g 26 cur → At b g 26 cur) : KR a b := fun g cur hg => ⟨cur, h g cur hg, rfl⟩
theorem ROW.kr {w w' : World} {lo : Nat} {v : Value} {m : Nat} (h : ROW w lo v m) (hk : KR w w') : ROW w' lo v m := by
  obtain ⟨a, n, c, e, hn, h | ⟨g, cur, ha, hlo, hat, hs, h1, h2⟩⟩ := h
  · exact ⟨a, n, c, e, hn, .inl h⟩
  · obtain ⟨cur', hat', hs'⟩ := hk g cur hat
    exact ⟨a, n, c, e, hn, .inr ⟨g, cur', ha, hlo, hat', by omega, h1, h2⟩⟩
theorem atNe {w : World} {a b : Nat} {t t' : TypeId} {cs cs' : Array Value} (h : At w a t cs) (h' : At w b t' cs') (ht : t ≠ t') : a ≠ b := by
  intro e
  subst e
  unfold At at h h'
  rw [h] at h'
  simp only [Option.some.injEq, Obj.cells.injEq] at h'
  exact ht h'.2.1
theorem ownKeep0 {w w' : World} {B : Nat} {e : TypeId} {sz : Nat} {v : Value} {n : Nat} {xs : List Value} (h : w.ownsRow B e sz v n xs) (hk : ∀ g cs, v.ownBlock = some g → At w g e cs → w'.heap[g]? = w.heap[g]?) : w'.ownsRow B e sz v n xs := by
  obtain ⟨h0, h | ⟨g, cap, cur, h1, h2, h3, h4⟩⟩ := h
  · exact ⟨h0, .inl h⟩
  · exact ⟨h0, .inr ⟨g, cap, cur, h1, h2, (hk g cur (by rw [h1]; rfl) h3).trans h3, h4⟩⟩
theorem ownShape {w : World} {B : Nat} {e : TypeId} {sz : Nat} {v : Value} {n : Nat} {xs : List Value} (h : w.ownsRow B e sz v n xs) : ∃ a c, v = .slice a n c := by
  obtain ⟨h0, ⟨h, hn⟩ | ⟨g, cap, cur, h1, h2, h3, h4⟩⟩ := h
  · subst hn; exact ⟨_, _, h⟩
  · exact ⟨_, _, h1⟩
theorem info188 : (Tryf.prog.info? 188).map (fun i => (i.zero, i.size, i.bytes)) = some (some (.agg #[.pointer none, .int .i32 0]), 2, 16) := by kernel_rfl
theorem info26 : (Tryf.prog.info? 26).map (fun i => (i.zero, i.size, i.bytes)) = some (some (.pointer none), 1, 8) := by kernel_rfl
/-- Below B, all blocks but p are as they were; what lies below the heap's end is kept but for p and the list's row. -/
structure PF (p : Nat) (v : Value) (w w' : World) : Prop where
  size : w.heap.size ≤ w'.heap.size
  blk : ∀ x, x < w.heap.size → x ≠ p → v.ownBlock ≠ some x → w'.heap[x]? = w.heap[x]?

/-- What a push at the root leaves. -/
def P0P (B p n : Nat) (xs : List Value) (loc kd : Int) (a : Option Addr) (c : Nat) (w : World) (e : Ending) (w' : World) : Prop :=
  e = .returned (.int .i64 n) ∧ (∃ a' c', PQ w' p (.pointer (some ⟨w.heap.size + 1 + 1, 0, none⟩)) (.slice a' (n + 1) c') ∧ w'.ownsRow B 188 2 (.slice a' (n + 1) c') (n + 1) (xs ++ [.pointer (some ⟨w.heap.size + 1 + 1, 0, none⟩), il loc])) ∧
  At w' (w.heap.size + 1 + 1) 41 (scv (.pointer none) (.slice none 0 0) (w.heap.size + 1) 0 0 kd) ∧ w'.heap[w.heap.size + 1]? = some (.map #[] 0) ∧ PF p (.slice a n c) w w' ∧ ∀ B0, B0 ≤ p → Below B0 w w'

set_option maxRecDepth 100000 in
set_option maxHeartbeats 4000000 in
theorem push0 (B p n c : Nat) (a : Option Addr) (xs : List Value) (loc prev kd : Int) (w : World) (hn : n ≤ 70000) (hB : B ≤ w.heap.size) (hpB : p < B) (h : PQ w p (.pointer none) (.slice a n c)) (hown : w.ownsRow B 188 2 (.slice a n c) n xs) (hprev : 0 < n → xs[(n - 1) * 2 + 1]? = some (il prev) ∧ prev < loc) (hk8 : (kd == 8) = false) (hg0 : w.cell? ⟨0, 0, none⟩ = some (.int .u32 4294967295)) (hg1 : w.cell? ⟨0, 1, none⟩ = some (.int .u32 4294967295)) (hp0 : 0 < p) (hloc : -2147483648 ≤ loc ∧ loc ≤ 2147483647) :
    Calls Tryf.prog 22 #[.pointer (some ⟨p, 0, none⟩), .int .u8 kd, .agg #[il loc]] w (P0P B p n xs loc kd a c w) := by
  have hmm := @run_makeMap Tryf.prog
  obtain ⟨h104, f104, h177, f177, hty⟩ := h
  have HTY := Lib.hid hty
  clear hty
  have lp := World.block_lt_of_cell? _ _ h104
  have l0 := World.block_lt_of_cell? _ _ hg0
  have lp1 : p < w.heap.size + 1 := by omega
  have lp2 : p < w.heap.size + 1 + 1 := by omega
  have lp3 : p < w.heap.size + 1 + 1 + 1 := by omega
  have l01 : 0 < w.heap.size + 1 := by omega
  have l02 : 0 < w.heap.size + 1 + 1 := by omega
  have hn0 : (0 : Int) ≤ (n : Int) := Int.natCast_nonneg _
  have hn1 : (n : Int) ≤ 70000 := by omega
  obtain ⟨i0, hi0, hz0, hz1, hz2⟩ := info_parts info188
  have I0 := Lib.hid hi0
  have I1 := Lib.hid hz0
  have I2 := Lib.hid hz1
  have I3 := Lib.hid hz2
  clear hi0 hz0 hz1 hz2
  have HO := Lib.hid hown
  have HP := Lib.hid hprev
  clear hown hprev
  have ne104 : (⟨p, 104, none⟩ : Addr) ≠ ⟨p, 177, none⟩ := by intro e; injection e with _ e2 _; omega
  obtain ⟨V, hV⟩ : ∃ V, V = (((w.setCell ⟨p, 104, none⟩ (.pointer (some ⟨w.heap.size + 1 + 1, 0, none⟩))).alloc (.cells #[il loc] 33)).alloc (.map #[] 0)).alloc (.cells (scv (.pointer none) (.slice none 0 0) (w.heap.size + 1) 0 0 kd) 41) := ⟨_, rfl⟩
  have hsz : (w.setCell ⟨p, 104, none⟩ (.pointer (some ⟨w.heap.size + 1 + 1, 0, none⟩))).heap.size = w.heap.size := by simp [World.setCell]
  have zV : V.heap.size = w.heap.size + 1 + 1 + 1 := by rw [hV]; simp [World.setCell]
  have AB := Lib.hid (show At V w.heap.size 33 #[il loc] from by
    rw [hV]
    have h := At.new (w.setCell ⟨p, 104, none⟩ (.pointer (some ⟨w.heap.size + 1 + 1, 0, none⟩))) 33 #[il loc]
    rw [hsz] at h
    exact (h.alloc _).alloc _)
  have AS := Lib.hid (show At V (w.heap.size + 1 + 1) 41 (scv (.pointer none) (.slice none 0 0) (w.heap.size + 1) 0 0 kd) from by
    rw [hV]
    have h := At.new (((w.setCell ⟨p, 104, none⟩ (.pointer (some ⟨w.heap.size + 1 + 1, 0, none⟩))).alloc (.cells #[il loc] 33)).alloc (.map #[] 0)) 41 (scv (.pointer none) (.slice none 0 0) (w.heap.size + 1) 0 0 kd)
    rw [show (((w.setCell ⟨p, 104, none⟩ (.pointer (some ⟨w.heap.size + 1 + 1, 0, none⟩))).alloc (.cells #[il loc] 33)).alloc (.map #[] 0)).heap.size = w.heap.size + 1 + 1 from by simp [World.setCell]] at h
    exact h)
  have AM := Lib.hid (show V.heap[w.heap.size + 1]? = some (.map #[] 0) from by
    rw [hV, Below.heap_alloc _ _ _ (by simp [World.setCell])]
    have h := heap_alloc_new ((w.setCell ⟨p, 104, none⟩ (.pointer (some ⟨w.heap.size + 1 + 1, 0, none⟩))).alloc (.cells #[il loc] 33)) (.map #[] 0)
    rw [show ((w.setCell ⟨p, 104, none⟩ (.pointer (some ⟨w.heap.size + 1 + 1, 0, none⟩))).alloc (.cells #[il loc] 33)).heap.size = w.heap.size + 1 from by simp [World.setCell]] at h
    exact h)
  have KV := Lib.hid (show ∀ x, x < w.heap.size → x ≠ p → V.heap[x]? = w.heap[x]? from fun x hx hp => by
    rw [hV, Below.heap_alloc _ _ _ (by simp [World.setCell]; omega), Below.heap_alloc _ _ _ (by simp [World.setCell]; omega), Below.heap_alloc _ _ _ (by simp [World.setCell]; omega), Below.heap_setCell _ _ _ x (by simpa using hp)])
  have OV := Lib.hid (show V.ownsRow B 188 2 (.slice a n c) n xs from ownKeep0 HO.out (fun x cs hx hat => KV.out x hat.lt (fun e => by have := (World.ownsRow.lt HO.out x hx).1; omega)))
  have TY := Lib.hid (show ∃ cs, At V p 186 cs from by rw [hV]; obtain ⟨cs, h⟩ := HTY.out; exact ⟨_, (((h.set 104 _).alloc _).alloc _).alloc _⟩)
  have v177 : V.cell? ⟨p, 177, none⟩ = some (.slice a n c) := by rw [hV]; simp [go_sem, *]
  have vf177 : V.frozen? ⟨p, 177, none⟩ = false := by rw [hV]; simp [go_sem, *]
  have v104 : V.cell? ⟨p, 104, none⟩ = some (.pointer (some ⟨w.heap.size + 1 + 1, 0, none⟩)) := by rw [hV]; simp [go_sem, *]
  have vf104 : V.frozen? ⟨p, 104, none⟩ = false := by rw [hV]; simp [go_sem, *]
  have vb : V.cell? ⟨w.heap.size, 0, none⟩ = some (il loc) := by rw [AB.out.cell]; rfl
  have lpV : p < V.heap.size := by omega
  have lbV : w.heap.size < V.heap.size := by omega
  have l3V : w.heap.size + 1 + 1 < V.heap.size := by omega
  have HV := Lib.hid hV
  have BV := Lib.hid (show ∀ B0, B0 ≤ p → Below B0 w V from fun B0 hB0 => by
    rw [hV]
    exact ((((Below.refl _ _).setCell (by simpa using hB0) _).alloc (by simp [World.setCell]; omega) _).alloc (by simp [World.setCell]; omega) _).alloc (by simp [World.setCell]; omega) _)
  have HZV := Lib.hid zV
  clear hV hsz zV
  by_cases hz : n = 0
  · have hnz : ¬ (0 : Int) < (n : Int) := by omega
    clear hz
    go_enter Tryf.func22, Tryf.ntmps22
    go_wp2_with fail
    rw [← HV.out]
    clear h104 f104 h177 f177 hg0 hg1
    have x177 : V.cell? ⟨p, 177, none⟩ = some (.slice a n c) := v177
    obtain ⟨g, cap, w1, hrun, hown1, hgrow, hlie, hlt2⟩ := appRun_lies (P := Tryf.prog) ((V.alloc (.cells #[.pointer (some ⟨w.heap.size + 1 + 1, 0, none⟩), il loc] 188)).drew) 161 161 B 188 i0 _ 2 16 Tryf.underlying161 I0.out I1.out I2.out I3.out rfl (by omega) (.slice a n c) n xs ((OV.out.alloc _).drew) ⟨V.heap.size, 0, none⟩ 1 1 [.pointer (some ⟨w.heap.size + 1 + 1, 0, none⟩), il loc] (by rfl) (World.news_of_block (cs := #[.pointer (some ⟨w.heap.size + 1 + 1, 0, none⟩), il loc]) (t := 188) (fr := (0, 0)) (heap_alloc_new V _)) (by simp [Value.oneCell']) (by omega) (by unfold maxLen; omega) (by omega) (by simp; omega) (V.heap.size + 1) (by simp)
    have hneo : (Value.slice a n c).ownBlock ≠ some p := fun e => by have := (World.ownsRow.lt OV.out p e).1; omega
    have kp : ∀ o, w1.cell? ⟨p, o, none⟩ = V.cell? ⟨p, o, none⟩ := fun o => (World.cell?_of_block (a := ⟨p, o, none⟩) (hgrow.block p (by simp; omega) (Ne.symm hneo))).trans (World.cell?_alloc_lt _ _ _ lpV)
    have kf : ∀ o, w1.frozen? ⟨p, o, none⟩ = V.frozen? ⟨p, o, none⟩ := fun o => (World.frozen?_of_block (a := ⟨p, o, none⟩) (hgrow.block p (by simp; omega) (Ne.symm hneo))).trans (((Below.refl V.heap.size V).alloc (Nat.le_refl _) _).frozen (p := ⟨p, o, none⟩) lpV)
    have y177 : w1.cell? ⟨p, 177, none⟩ = some (.slice a n c) := (kp _).trans v177
    have z177 : w1.frozen? ⟨p, 177, none⟩ = false := (kf _).trans vf177
    have y104 : w1.cell? ⟨p, 104, none⟩ = some (.pointer (some ⟨w.heap.size + 1 + 1, 0, none⟩)) := (kp _).trans v104
    have z104 : w1.frozen? ⟨p, 104, none⟩ = false := (kf _).trans vf104
    have lp1' := World.block_lt_of_cell? _ _ y177
    have HOW := Lib.hid hown1
    have HGR := Lib.hid hgrow
    have HNE := Lib.hid hneo
    clear hown1 hgrow hlie hneo x177 kp kf
    go_region
    go_wp2_with fail
    go_ret
    have HX := Lib.hid (ownKeep0 (w' := w1.setCell ⟨p, 177, none⟩ (.slice (some ⟨g, 0, none⟩) (n + 1) cap)) HOW.out (fun x cs hx hat => Below.heap_setCell _ _ _ x (by
      simp only [Value.ownBlock, Option.some.injEq] at hx
      have := (World.ownsRow.lt HOW.out x (by simp [Value.ownBlock, hx])).1
      simp; omega)))
    have kw : ∀ x, x < V.heap.size → x ≠ p → (Value.slice a n c).ownBlock ≠ some x → (w1.setCell ⟨p, 177, none⟩ (.slice (some ⟨g, 0, none⟩) (n + 1) cap)).heap[x]? = V.heap[x]? := fun x hx hxp hxo => by
      rw [Below.heap_setCell _ _ _ x (by simpa using hxp), HGR.out.block x (by simp; omega) (Ne.symm hxo)]
      exact Below.heap_alloc V _ x hx
    have own3 : ∀ x cs t, t ≠ 188 → At V x t cs → (Value.slice a n c).ownBlock ≠ some x := fun x cs t ht hat e => by
      obtain ⟨h0, ⟨h, _⟩ | ⟨g', cap', cur, h1, _, h3, _⟩⟩ := OV.out
      · rw [h] at e; cases e
      · rw [h1] at e
        simp only [Value.ownBlock, Option.some.injEq] at e
        exact atNe hat h3 ht e.symm
    refine ⟨rfl, ⟨some ⟨g, 0, none⟩, cap, ⟨?_, ?_, ?_, ?_, ?_⟩, HX.out⟩, ?_, ?_, ⟨?_, fun x hx hxp hxo => ?_⟩, fun B0 hB0 => ?_⟩
    · rw [World.cell?_setCell_other _ _ _ _ (by intro e; injection e with _ e2 _; omega)]; exact y104
    · simp [go_sem, *]
    · simp [go_sem, *]
    · simp [go_sem, *]
    · obtain ⟨cs, h⟩ := TY.out
      exact ⟨_, (show At w1 p 186 cs from (HGR.out.block p (by simp; omega) (Ne.symm HNE.out)).trans ((h.alloc _).drew)).set 177 _⟩
    · exact (kw _ (by omega) (by omega) (own3 _ _ _ (by decide) AS.out)).trans AS.out
    · refine (kw _ (by omega) (by omega) ?_).trans AM.out
      intro e
      obtain ⟨h0, ⟨h, _⟩ | ⟨g', cap', cur, h1, _, h3, _⟩⟩ := OV.out
      · rw [h] at e; cases e
      · rw [h1] at e
        simp only [Value.ownBlock, Option.some.injEq] at e
        rw [e, AM.out] at h3
        cases h3
    · have := HGR.out.size
      simp [World.setCell] at *
      omega
    · exact (kw x (by omega) hxp hxo).trans (KV.out x hx hxp)
    · exact (Below.grown (((BV.out B0 hB0).alloc (by omega) _).drew) HGR.out (by simp; omega) (fun x hx => by have := (World.ownsRow.lt OV.out x hx).1; omega)).setCell (by simpa using hB0) _
  · have hnp : 0 < n := by omega
    have hnp1 : (0 : Int) < (n : Int) := by omega
    have hgp := HP.out hnp
    obtain ⟨g0, c0, hgg, _, _, _, csx, hax⟩ : ∃ g c', (Value.slice a n c) = .slice (some ⟨g, 0, none⟩) n c' ∧ B ≤ g ∧ n ≤ c' ∧ c' ≤ maxLen ∧ ∃ cs, At V g 188 cs := by
      obtain ⟨h0, ⟨_, h⟩ | ⟨g, cap, cur, h1, h2, h3, h4, h5, _⟩⟩ := OV.out
      · omega
      · exact ⟨g, cap, h1, h2, h4, h5, cur, h3⟩
    simp only [Value.slice.injEq] at hgg
    obtain ⟨rfl, _, rfl⟩ := hgg
    have q1 : V.cell? ⟨g0, (n - 1) * 2 + 1, none⟩ = some (il prev) := by rw [World.ownsRow.cellAt OV.out _ (by omega)]; exact hgp.1
    have lg0 := hax.lt
    obtain ⟨m1, hm1⟩ : ∃ m1, m1 = n - 1 := ⟨_, rfl⟩
    rw [← hm1] at q1
    have e1 : (n : Int) - 1 = (m1 : Int) := by omega
    have e2 : IntKind.i64.wrap ((n : Int) - 1) = (m1 : Int) := by rw [e1]; exact IntWalk.i64_in _ (by omega)
    have hm0 : (0 : Int) ≤ (m1 : Int) := Int.natCast_nonneg _
    have hmn : (m1 : Int) < (n : Int) := by omega
    have hpl : ¬ loc ≤ prev := by have := hgp.2; omega
    clear hgp hax hm1 csx
    go_enter Tryf.func22, Tryf.ntmps22
    go_wp2_with fail
    rw [← HV.out]
    clear h104 f104 h177 f177 hg0 hg1
    go_quiet (fail)
    obtain ⟨U, hU⟩ : ∃ U, U = V.drewN nq := ⟨_, rfl⟩
    have OV := Lib.hid (show U.ownsRow B 188 2 (.slice (some ⟨g0, 0, none⟩) n c) n xs from by rw [hU]; exact OV.out)
    have AB := Lib.hid (show At U w.heap.size 33 #[il loc] from by rw [hU]; exact AB.out)
    have AS := Lib.hid (show At U (w.heap.size + 1 + 1) 41 (scv (.pointer none) (.slice none 0 0) (w.heap.size + 1) 0 0 kd) from by rw [hU]; exact AS.out)
    have AM := Lib.hid (show U.heap[w.heap.size + 1]? = some (.map #[] 0) from by rw [hU]; exact AM.out)
    have KV := Lib.hid (show ∀ x, x < w.heap.size → x ≠ p → U.heap[x]? = w.heap[x]? from by rw [hU]; exact KV.out)
    have BV := Lib.hid (show ∀ B0, B0 ≤ p → Below B0 w U from fun B0 h => by rw [hU]; exact below_drewN (BV.out B0 h) _)
    have TY := Lib.hid (show ∃ cs, At U p 186 cs from by rw [hU]; exact TY.out)
    have w177 : U.cell? ⟨p, 177, none⟩ = some (.slice (some ⟨g0, 0, none⟩) n c) := by rw [hU]; exact v177
    have wf177 : U.frozen? ⟨p, 177, none⟩ = false := by rw [hU]; exact vf177
    have w104 : U.cell? ⟨p, 104, none⟩ = some (.pointer (some ⟨w.heap.size + 1 + 1, 0, none⟩)) := by rw [hU]; exact v104
    have wf104 : U.frozen? ⟨p, 104, none⟩ = false := by rw [hU]; exact vf104
    have wb : U.cell? ⟨w.heap.size, 0, none⟩ = some (il loc) := by rw [AB.out.cell]; rfl
    have lpU : p < U.heap.size := by rw [hU]; exact lpV
    have lbU : w.heap.size < U.heap.size := by rw [hU]; exact lbV
    have l3U : w.heap.size + 1 + 1 < U.heap.size := by rw [hU]; exact l3V
    rw [← hU]
    clear hU v177 vf177 v104 vf104 vb lpV lbV l3V q1 e1 e2
    go_wp2_with fail
    have x177 : U.cell? ⟨p, 177, none⟩ = some (.slice (some ⟨g0, 0, none⟩) n c) := w177
    obtain ⟨g, cap, w1, hrun, hown1, hgrow, hlie, hlt2⟩ := appRun_lies (P := Tryf.prog) ((U.alloc (.cells #[.pointer (some ⟨w.heap.size + 1 + 1, 0, none⟩), il loc] 188)).drew) 161 161 B 188 i0 _ 2 16 Tryf.underlying161 I0.out I1.out I2.out I3.out rfl (by omega) (.slice (some ⟨g0, 0, none⟩) n c) n xs ((OV.out.alloc _).drew) ⟨U.heap.size, 0, none⟩ 1 1 [.pointer (some ⟨w.heap.size + 1 + 1, 0, none⟩), il loc] (by rfl) (World.news_of_block (cs := #[.pointer (some ⟨w.heap.size + 1 + 1, 0, none⟩), il loc]) (t := 188) (fr := (0, 0)) (heap_alloc_new U _)) (by simp [Value.oneCell']) (by omega) (by unfold maxLen; omega) (by omega) (by simp; omega) (U.heap.size + 1) (by simp)
    have hneo : (Value.slice (some ⟨g0, 0, none⟩) n c).ownBlock ≠ some p := fun e => by have := (World.ownsRow.lt OV.out p e).1; omega
    have kp : ∀ o, w1.cell? ⟨p, o, none⟩ = U.cell? ⟨p, o, none⟩ := fun o => (World.cell?_of_block (a := ⟨p, o, none⟩) (hgrow.block p (by simp; omega) (Ne.symm hneo))).trans (World.cell?_alloc_lt _ _ _ lpU)
    have kf : ∀ o, w1.frozen? ⟨p, o, none⟩ = U.frozen? ⟨p, o, none⟩ := fun o => (World.frozen?_of_block (a := ⟨p, o, none⟩) (hgrow.block p (by simp; omega) (Ne.symm hneo))).trans (((Below.refl U.heap.size U).alloc (Nat.le_refl _) _).frozen (p := ⟨p, o, none⟩) lpU)
    have y177 : w1.cell? ⟨p, 177, none⟩ = some (.slice (some ⟨g0, 0, none⟩) n c) := (kp _).trans w177
    have z177 : w1.frozen? ⟨p, 177, none⟩ = false := (kf _).trans wf177
    have y104 : w1.cell? ⟨p, 104, none⟩ = some (.pointer (some ⟨w.heap.size + 1 + 1, 0, none⟩)) := (kp _).trans w104
    have z104 : w1.frozen? ⟨p, 104, none⟩ = false := (kf _).trans wf104
    have lp1' := World.block_lt_of_cell? _ _ y177
    have HOW := Lib.hid hown1
    have HGR := Lib.hid hgrow
    have HNE := Lib.hid hneo
    clear hown1 hgrow hlie hneo x177 kp kf
    go_region
    go_wp2_with fail
    go_ret
    have HX := Lib.hid (ownKeep0 (w' := w1.setCell ⟨p, 177, none⟩ (.slice (some ⟨g, 0, none⟩) (n + 1) cap)) HOW.out (fun x cs hx hat => Below.heap_setCell _ _ _ x (by
      simp only [Value.ownBlock, Option.some.injEq] at hx
      have := (World.ownsRow.lt HOW.out x (by simp [Value.ownBlock, hx])).1
      simp; omega)))
    have kw : ∀ x, x < U.heap.size → x ≠ p → (Value.slice (some ⟨g0, 0, none⟩) n c).ownBlock ≠ some x → (w1.setCell ⟨p, 177, none⟩ (.slice (some ⟨g, 0, none⟩) (n + 1) cap)).heap[x]? = U.heap[x]? := fun x hx hxp hxo => by
      rw [Below.heap_setCell _ _ _ x (by simpa using hxp), HGR.out.block x (by simp; omega) (Ne.symm hxo)]
      exact Below.heap_alloc U _ x hx
    have own3 : ∀ x cs t, t ≠ 188 → At U x t cs → (Value.slice (some ⟨g0, 0, none⟩) n c).ownBlock ≠ some x := fun x cs t ht hat e => by
      obtain ⟨h0, ⟨h, _⟩ | ⟨g', cap', cur, h1, _, h3, _⟩⟩ := OV.out
      · rw [h] at e; cases e
      · rw [h1] at e
        simp only [Value.ownBlock, Option.some.injEq] at e
        exact atNe hat h3 ht e.symm
    refine ⟨rfl, ⟨some ⟨g, 0, none⟩, cap, ⟨?_, ?_, ?_, ?_, ?_⟩, HX.out⟩, ?_, ?_, ⟨?_, fun x hx hxp hxo => ?_⟩, fun B0 hB0 => ?_⟩
    · rw [World.cell?_setCell_other _ _ _ _ (by intro e; injection e with _ e2 _; omega)]; exact y104
    · simp [go_sem, *]
    · simp [go_sem, *]
    · simp [go_sem, *]
    · obtain ⟨cs, h⟩ := TY.out
      exact ⟨_, (show At w1 p 186 cs from (HGR.out.block p (by simp; omega) (Ne.symm HNE.out)).trans ((h.alloc _).drew)).set 177 _⟩
    · exact (kw _ (by omega) (by omega) (own3 _ _ _ (by decide) AS.out)).trans AS.out
    · refine (kw _ (by omega) (by omega) ?_).trans AM.out
      intro e
      obtain ⟨h0, ⟨h, _⟩ | ⟨g', cap', cur, h1, _, h3, _⟩⟩ := OV.out
      · rw [h] at e; cases e
      · rw [h1] at e
        simp only [Value.ownBlock, Option.some.injEq] at e
        rw [e, AM.out] at h3
        cases h3
    · have := HGR.out.size
      simp [World.setCell] at *
      omega
    · exact (kw x (by omega) hxp hxo).trans (KV.out x hx hxp)
    · exact (Below.grown (((BV.out B0 hB0).alloc (by omega) _).drew) HGR.out (by simp; omega) (fun x hx => by have := (World.ownsRow.lt OV.out x hx).1; omega)).setCell (by simpa using hB0) _
end PS
end Go.Proofs.YthgcchgpplblbaaFmt
