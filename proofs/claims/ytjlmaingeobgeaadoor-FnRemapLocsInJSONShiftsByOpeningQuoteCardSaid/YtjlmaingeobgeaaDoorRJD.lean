/- Proved here: the contracts of RemapStringInJSLoc and of remapExprLocsInJSON, node by node. Conditions as stated. -/
import Derived.Test.YtjlmaingeobgeaaDoorRJC
import Derived.WalkKit
import Derived.WalkSpells
import Derived.WalkLawsBesides
import Derived.Lib.Hide
import Derived.Lib.SliceRun
import Derived.Deep.RegionWith
import Derived.OwnWalk
import Derived.Laws.OwnMore
import Derived.BigRegion
import Derived.Carry
namespace Go.Proofs.YtjlmaingeobgeaaDoor
open Go.RowKit
set_option linter.unusedSimpArgs false
set_option linter.unusedVariables false

def sh (p l : Int) : Int := wrap32 (p + l)
theorem sh_in (p l : Int) : -2147483648 ≤ sh p l ∧ sh p l ≤ 2147483647 := by unfold sh wrap32; omega
/-- The table: one entry. -/
def TB (w : World) (g : Nat) (p : Int) : Prop := ∃ cs, At w g 321 cs ∧ cs[0]? = some (il 1) ∧ cs[1]? = some (il 0) ∧ cs[2]? = some (il 0) ∧ cs[3]? = some (il p)
theorem TB.below {w w' : World} {g : Nat} {p : Int} (h : TB w g p) (hb : Below w.heap.size w w') : TB w' g p := by
  obtain ⟨cs, h0, h⟩ := h
  exact ⟨cs, h0.below hb h0.lt, h⟩
theorem TB.far {w : World} {g b o : Nat} {p : Int} {t : TypeId} {cs : Array Value} (h : TB w g p) (hb : At w b t cs) (ht : t ≠ 321) (v : Value) : TB (w.setCell ⟨b, o, none⟩ v) g p := by
  obtain ⟨cs', h0, h⟩ := h
  exact ⟨cs', h0.far (atNe h0 hb (fun e => ht e.symm)) v, h⟩
theorem TB.of {w : World} {B g cap : Nat} {p : Int} (h : w.ownsRow B 321 4 (.slice (some ⟨g, 0, none⟩) 1 cap) 1 (T4 p)) : TB w g p := by
  obtain ⟨h0, ⟨h, _⟩ | ⟨g', cap', cur, h1, h2, h3, h4, h5, h6, h7⟩⟩ := h
  · cases h
  · simp only [Value.slice.injEq, Option.some.injEq, Addr.mk.injEq] at h1
    obtain ⟨⟨rfl, _⟩, _, rfl⟩ := h1
    have e : ∀ i, i < 4 → cur[i]? = (T4 p)[i]? := fun i hi => by
      rw [← h7, List.getElem?_take, if_pos (by omega)]; simp
    exact ⟨cur, h3, e 0 (by omega), e 1 (by omega), e 2 (by omega), e 3 (by omega)⟩
set_option maxRecDepth 100000 in
set_option maxHeartbeats 1000000 in
theorem rLoc (g cap : Nat) (p l : Int) (w : World) (hT : TB w g p) (hp : 0 ≤ p ∧ p ≤ 2147483647) (hl : -2147483648 ≤ l ∧ l ≤ 2147483647) :
    Calls Tryd.prog 83 #[.slice (some ⟨g, 0, none⟩) 1 cap, .agg #[il l]] w fun e w' => e = .returned (.agg #[il (sh p l)]) ∧ Below w.heap.size w w' := by
  obtain ⟨cs, hat, h0, h1, h2, h3⟩ := hT
  have g0 : w.cell? ⟨g, 0, none⟩ = some (il 1) := by rw [hat.cell]; exact h0
  have g1 : w.cell? ⟨g, 1, none⟩ = some (il 0) := by rw [hat.cell]; exact h1
  have g2 : w.cell? ⟨g, 2, none⟩ = some (il 0) := by rw [hat.cell]; exact h2
  have g3 : w.cell? ⟨g, 3, none⟩ = some (il p) := by rw [hat.cell]; exact h3
  have lg := hat.lt
  have lg1 : g < w.heap.size + 1 := by omega
  have lg2 : g < w.heap.size + 1 + 1 := by omega
  obtain ⟨l0, l1⟩ := hl
  obtain ⟨p0, p1⟩ := hp
  clear hat h0 h1 h2 h3 cs
  go_enter Tryd.func83, Tryd.ntmps83
  go_wp2_with fail
  go_loop [5, 6] (fun c i => (c = .int .i64 1 ∨ c = .int .i64 0) ∧ i = .int .i64 0) (fun c _ => (intOf c).toNat)
  case atStart => exact ⟨.inl rfl, rfl⟩
  case round =>
    obtain ⟨rfl | rfl, rfl⟩ := hrel
    · go_wp2_with fail
      go_round
      case rel => exact ⟨.inr rfl, rfl⟩
      case measure => simp [intOf]
    · go_wp2_with fail
      exact bodyPost_ret (v := .agg #[il (sh p l)]) (by simp [results, Tryd.results83, go_sem, sh]) rfl ⟨rfl, (((Below.refl _ _).alloc (Nat.le_refl _) _).alloc (by simp) _).alloc (by simp; omega) _⟩

set_option maxRecDepth 100000 in
set_option maxHeartbeats 1000000 in
theorem rLeaf212 (b o x g cap : Nat) (p l : Int) (w : World) (hT : TB w g p) (hp : 0 ≤ p ∧ p ≤ 2147483647) (hl : -2147483648 ≤ l ∧ l ≤ 2147483647) (e0 : w.cell? ⟨b, o, none⟩ = some (ex 212 x)) (e1 : w.cell? ⟨b, o + 1, none⟩ = some (il l)) (ef : w.frozen? ⟨b, o + 1, none⟩ = false) :
    Calls Tryd.prog 67 #[.pointer (some ⟨b, o, none⟩), .slice (some ⟨g, 0, none⟩) 1 cap] w fun e w' => e = .returned (.tuple #[]) ∧ ∃ wm, Below w.heap.size w wm ∧ w' = wm.setCell ⟨b, o + 1, none⟩ (il (sh p l)) := by
  have HT := Lib.hid hT
  clear hT
  go_enter Tryd.func67, Tryd.ntmps67
  go_wp2_with fail
  refine (rLoc g cap p l w HT.out hp hl).mono ?_
  rintro e w1 ⟨rfl, hb⟩
  have c0 := kept hb e0
  have c1 := kept hb e1
  have cf := keptF hb e1 ef
  have lb := World.block_lt_of_cell? _ _ c0
  have HB := Lib.hid hb
  clear hb e0 e1 ef
  go_wp2_with fail
  go_end0
  exact ⟨rfl, w1, HB.out, rfl⟩

set_option maxRecDepth 100000 in
set_option maxHeartbeats 1000000 in
theorem rLeaf223 (b o x g cap : Nat) (p l : Int) (w : World) (hT : TB w g p) (hp : 0 ≤ p ∧ p ≤ 2147483647) (hl : -2147483648 ≤ l ∧ l ≤ 2147483647) (e0 : w.cell? ⟨b, o, none⟩ = some (ex 223 x)) (e1 : w.cell? ⟨b, o + 1, none⟩ = some (il l)) (ef : w.frozen? ⟨b, o + 1, none⟩ = false) :
    Calls Tryd.prog 67 #[.pointer (some ⟨b, o, none⟩), .slice (some ⟨g, 0, none⟩) 1 cap] w fun e w' => e = .returned (.tuple #[]) ∧ ∃ wm, Below w.heap.size w wm ∧ w' = wm.setCell ⟨b, o + 1, none⟩ (il (sh p l)) := by
  have HT := Lib.hid hT
  clear hT
  go_enter Tryd.func67, Tryd.ntmps67
  go_wp2_with fail
  refine (rLoc g cap p l w HT.out hp hl).mono ?_
  rintro e w1 ⟨rfl, hb⟩
  have c0 := kept hb e0
  have c1 := kept hb e1
  have cf := keptF hb e1 ef
  have lb := World.block_lt_of_cell? _ _ c0
  have HB := Lib.hid hb
  clear hb e0 e1 ef
  go_wp2_with fail
  go_end0
  exact ⟨rfl, w1, HB.out, rfl⟩

set_option maxRecDepth 100000 in
set_option maxHeartbeats 1000000 in
theorem rLeaf262 (b o x g cap : Nat) (p l : Int) (w : World) (hT : TB w g p) (hp : 0 ≤ p ∧ p ≤ 2147483647) (hl : -2147483648 ≤ l ∧ l ≤ 2147483647) (e0 : w.cell? ⟨b, o, none⟩ = some (ex 262 x)) (e1 : w.cell? ⟨b, o + 1, none⟩ = some (il l)) (ef : w.frozen? ⟨b, o + 1, none⟩ = false) :
    Calls Tryd.prog 67 #[.pointer (some ⟨b, o, none⟩), .slice (some ⟨g, 0, none⟩) 1 cap] w fun e w' => e = .returned (.tuple #[]) ∧ ∃ wm, Below w.heap.size w wm ∧ w' = wm.setCell ⟨b, o + 1, none⟩ (il (sh p l)) := by
  have HT := Lib.hid hT
  clear hT
  go_enter Tryd.func67, Tryd.ntmps67
  go_wp2_with fail
  refine (rLoc g cap p l w HT.out hp hl).mono ?_
  rintro e w1 ⟨rfl, hb⟩
  have c0 := kept hb e0
  have c1 := kept hb e1
  have cf := keptF hb e1 ef
  have lb := World.block_lt_of_cell? _ _ c0
  have HB := Lib.hid hb
  clear hb e0 e1 ef
  go_wp2_with fail
  go_end0
  exact ⟨rfl, w1, HB.out, rfl⟩

def AI (n : Nat) (I : Nat → World → Prop) (i : Value) (wr : World) : Prop := ∃ k : Nat, i = .int .i64 k ∧ k ≤ n ∧ Hid (I k wr)
set_option maxRecDepth 100000 in
set_option maxHeartbeats 1000000 in
theorem rArr (b o a g cap ib n icap : Nat) (p l lc : Int) (v1 v3 v4 : Value) (w : World) (I : Nat → World → Prop) (hn : n ≤ 100000) (hp : 0 ≤ p ∧ p ≤ 2147483647) (hl : -2147483648 ≤ l ∧ l ≤ 2147483647) (hlc : -2147483648 ≤ lc ∧ lc ≤ 2147483647)
    (e0 : w.cell? ⟨b, o, none⟩ = some (ex 255 a)) (e1 : w.cell? ⟨b, o + 1, none⟩ = some (il l)) (ef : w.frozen? ⟨b, o + 1, none⟩ = false) (hA : At w a 258 #[.slice (some ⟨ib, 0, none⟩) n icap, v1, il lc, v3, v4]) (hba : b ≠ a) (hT : TB w g p) (hgb : g ≠ b)
    (h0 : ∀ w1 w2, Below w.heap.size w w1 → Below w1.heap.size (w1.setCell ⟨b, o + 1, none⟩ (il (sh p l))) w2 → I 0 (w2.setCell ⟨a, 2, none⟩ (il (sh p lc))))
    (hI : ∀ k W, I k W → W.cell? ⟨a, 0, none⟩ = some (.slice (some ⟨ib, 0, none⟩) n icap) ∧ n ≤ icap ∧ icap ≤ maxLen ∧ ∀ j, j < n → ib < W.heap.size)
    (hs : ∀ k W, k < n → I k W → Calls Tryd.prog 67 #[.pointer (some ⟨ib, k * 2, none⟩), .slice (some ⟨g, 0, none⟩) 1 cap] W fun e W' => e = .returned (.tuple #[]) ∧ I (k + 1) W') :
    Calls Tryd.prog 67 #[.pointer (some ⟨b, o, none⟩), .slice (some ⟨g, 0, none⟩) 1 cap] w fun e w' => e = .returned (.tuple #[]) ∧ I n w' := by
  have HT := Lib.hid hT
  have HA := Lib.hid hA
  have H0 := Lib.hid h0
  have HI := Lib.hid hI
  have HS := Lib.hid hs
  have hn1 : (n : Int) ≤ 100000 := by omega
  have hn0 : (0 : Int) ≤ (n : Int) := Int.natCast_nonneg _
  clear hT hA h0 hI hs
  go_enter Tryd.func67, Tryd.ntmps67
  go_wp2_with fail
  refine (rLoc g cap p l w HT.out hp hl).mono ?_
  rintro e w1 ⟨rfl, hb⟩
  have c0 := kept hb e0
  have c1 := kept hb e1
  have cf := keptF hb e1 ef
  have lb := World.block_lt_of_cell? _ _ c0
  have A1 := HA.out.below hb HA.out.lt
  have T1 := HT.out.below hb
  have HB := Lib.hid hb
  clear hb e0 e1 ef
  have A2 := A1.far (p := ⟨b, o + 1, none⟩) (fun e => hba e.symm) (il (sh p l))
  have T2 : TB (w1.setCell ⟨b, o + 1, none⟩ (il (sh p l))) g p := by
    obtain ⟨cs, h, h'⟩ := T1
    exact ⟨cs, h.far hgb _, h'⟩
  obtain ⟨W, hW⟩ : ∃ W, W = w1.setCell ⟨b, o + 1, none⟩ (il (sh p l)) := ⟨_, rfl⟩
  rw [← hW] at A2 T2
  have d0 : W.cell? ⟨b, o, none⟩ = some (ex 255 a) := by
    rw [hW, World.cell?_setCell_other _ _ _ _ (by intro e; injection e with _ e2 _; omega)]; exact c0
  have a0 : W.cell? ⟨a, 0, none⟩ = some (.slice (some ⟨ib, 0, none⟩) n icap) := by rw [A2.cell]; rfl
  have a2 : W.cell? ⟨a, 2, none⟩ = some (il lc) := by rw [A2.cell]; rfl
  have af := A2.frozen 2
  have la := A2.lt
  have lbW := World.block_lt_of_cell? _ _ d0
  have HTW := Lib.hid T2
  have HAW := Lib.hid A2
  have HW := Lib.hid hW
  have b0' : w1.cell? ⟨a, 0, none⟩ = some (.slice (some ⟨ib, 0, none⟩) n icap) := by rw [A1.cell]; rfl
  have b2' : w1.cell? ⟨a, 2, none⟩ = some (il lc) := by rw [A1.cell]; rfl
  have bf' := A1.frozen 2
  have la1 := A1.lt
  have hba2 : ¬ b = a := hba
  have hab2 : ¬ a = b := fun e => hba e.symm
  clear hW A1 A2 T1 T2
  go_wp2_with fail
  rw [← HW.out]
  clear b0' b2' bf' la1
  refine (rLoc g cap p lc W HTW.out hp hlc).mono ?_
  rintro e w2 ⟨rfl, hb⟩
  have HI0 := Lib.hid (H0.out w1 w2 HB.out (by rw [← HW.out]; exact hb.mono (by rw [HW.out]; simp [World.setCell])))
  have b0 := kept hb a0
  have b2 := kept hb a2
  have bf := keptF hb a2 af
  have la2 := World.block_lt_of_cell? _ _ b0
  clear hb a0 a2 af d0 c0 c1 cf
  obtain ⟨V, hV⟩ : ∃ V, V = w2.setCell ⟨a, 2, none⟩ (il (sh p lc)) := ⟨_, rfl⟩
  have v0 : V.cell? ⟨a, 0, none⟩ = some (.slice (some ⟨ib, 0, none⟩) n icap) := by
    rw [hV, World.cell?_setCell_other _ _ _ _ (by intro e; injection e with _ e2 _; omega)]; exact b0
  rw [← hV] at HI0
  have lav := World.block_lt_of_cell? _ _ v0
  go_wp2_with fail
  rw [← hV]
  clear hV b0 b2 bf
  go_wp2_with fail
  go_loopw [38] (fun i wr => AI n I i wr) (fun i _ => n - (intOf i).toNat)
  case atStart => exact ⟨0, rfl, Nat.zero_le _, HI0⟩
  case round =>
    obtain ⟨k, rfl, hk, HK⟩ := hrel
    clear v0
    obtain ⟨r0, hic, him, hib⟩ := HI.out k wr HK.out
    by_cases hlt : k < n
    · have lar := World.block_lt_of_cell? _ _ r0
      have lib := hib k hlt
      clear hib
      go_wp2_with fail
      refine (HS.out k wr hlt HK.out).mono ?_
      rintro e w3 ⟨rfl, h3⟩
      have H3 := Lib.hid h3
      clear h3
      go_wp2_with fail
      go_roundw
      case rel => exact ⟨k + 1, by go_num, by omega, H3⟩
      case measure => simp [intOf]; omega
    · obtain rfl : k = n := by omega
      go_wp2_with fail
      go_end0
      exact ⟨rfl, HK.out⟩

def OI (I0 I2 : World → Prop) (i : Value) (wr : World) : Prop := (i = .int .i64 0 ∧ Hid (I0 wr)) ∨ (i = .int .i64 1 ∧ Hid (I2 wr))
set_option maxRecDepth 100000 in
set_option maxHeartbeats 1000000 in
theorem rObj (b o a g cap ib icap : Nat) (p l lc : Int) (v1 v3 v4 : Value) (w : World) (I0 I1 I2 : World → Prop) (hp : 0 ≤ p ∧ p ≤ 2147483647) (hl : -2147483648 ≤ l ∧ l ≤ 2147483647) (hlc : -2147483648 ≤ lc ∧ lc ≤ 2147483647)
    (e0 : w.cell? ⟨b, o, none⟩ = some (ex 59 a)) (e1 : w.cell? ⟨b, o + 1, none⟩ = some (il l)) (ef : w.frozen? ⟨b, o + 1, none⟩ = false) (hA : At w a 71 #[.slice (some ⟨ib, 0, none⟩) 1 icap, v1, il lc, v3, v4]) (hba : b ≠ a) (hT : TB w g p) (hgb : g ≠ b)
    (h0 : ∀ w1 w2, Below w.heap.size w w1 → Below w1.heap.size (w1.setCell ⟨b, o + 1, none⟩ (il (sh p l))) w2 → I0 (w2.setCell ⟨a, 2, none⟩ (il (sh p lc))))
    (hI : ∀ W, I0 W ∨ I1 W ∨ I2 W → W.cell? ⟨a, 0, none⟩ = some (.slice (some ⟨ib, 0, none⟩) 1 icap) ∧ 1 ≤ icap ∧ icap ≤ maxLen ∧ ib < W.heap.size)
    (hs1 : ∀ W, I0 W → Calls Tryd.prog 67 #[.pointer (some ⟨ib, 1, none⟩), .slice (some ⟨g, 0, none⟩) 1 cap] W fun e W' => e = .returned (.tuple #[]) ∧ I1 W')
    (hs2 : ∀ W, I1 W → Calls Tryd.prog 67 #[.pointer (some ⟨ib, 3, none⟩), .slice (some ⟨g, 0, none⟩) 1 cap] W fun e W' => e = .returned (.tuple #[]) ∧ I2 W') :
    Calls Tryd.prog 67 #[.pointer (some ⟨b, o, none⟩), .slice (some ⟨g, 0, none⟩) 1 cap] w fun e w' => e = .returned (.tuple #[]) ∧ I2 w' := by
  have HT := Lib.hid hT
  have HA := Lib.hid hA
  have H0 := Lib.hid h0
  have HI := Lib.hid hI
  have HS1 := Lib.hid hs1
  have HS2 := Lib.hid hs2
  clear hT hA h0 hI hs1 hs2
  go_enter Tryd.func67, Tryd.ntmps67
  go_wp2_with fail
  refine (rLoc g cap p l w HT.out hp hl).mono ?_
  rintro e w1 ⟨rfl, hb⟩
  have c0 := kept hb e0
  have c1 := kept hb e1
  have cf := keptF hb e1 ef
  have lb := World.block_lt_of_cell? _ _ c0
  have A1 := HA.out.below hb HA.out.lt
  have T1 := HT.out.below hb
  have HB := Lib.hid hb
  clear hb e0 e1 ef
  have A2 := A1.far (p := ⟨b, o + 1, none⟩) (fun e => hba e.symm) (il (sh p l))
  have T2 : TB (w1.setCell ⟨b, o + 1, none⟩ (il (sh p l))) g p := by
    obtain ⟨cs, h, h'⟩ := T1
    exact ⟨cs, h.far hgb _, h'⟩
  obtain ⟨W, hW⟩ : ∃ W, W = w1.setCell ⟨b, o + 1, none⟩ (il (sh p l)) := ⟨_, rfl⟩
  rw [← hW] at A2 T2
  have d0 : W.cell? ⟨b, o, none⟩ = some (ex 59 a) := by
    rw [hW, World.cell?_setCell_other _ _ _ _ (by intro e; injection e with _ e2 _; omega)]; exact c0
  have a0 : W.cell? ⟨a, 0, none⟩ = some (.slice (some ⟨ib, 0, none⟩) 1 icap) := by rw [A2.cell]; rfl
  have a2 : W.cell? ⟨a, 2, none⟩ = some (il lc) := by rw [A2.cell]; rfl
  have af := A2.frozen 2
  have la := A2.lt
  have lbW := World.block_lt_of_cell? _ _ d0
  have HTW := Lib.hid T2
  have HAW := Lib.hid A2
  have HW := Lib.hid hW
  have b0' : w1.cell? ⟨a, 0, none⟩ = some (.slice (some ⟨ib, 0, none⟩) 1 icap) := by rw [A1.cell]; rfl
  have b2' : w1.cell? ⟨a, 2, none⟩ = some (il lc) := by rw [A1.cell]; rfl
  have bf' := A1.frozen 2
  have la1 := A1.lt
  have hba2 : ¬ b = a := hba
  have hab2 : ¬ a = b := fun e => hba e.symm
  clear hW A1 A2 T1 T2
  go_wp2_with fail
  rw [← HW.out]
  clear b0' b2' bf' la1
  refine (rLoc g cap p lc W HTW.out hp hlc).mono ?_
  rintro e w2 ⟨rfl, hb⟩
  have HI0 := Lib.hid (H0.out w1 w2 HB.out (by rw [← HW.out]; exact hb.mono (by rw [HW.out]; simp [World.setCell])))
  have b0 := kept hb a0
  have b2 := kept hb a2
  have bf := keptF hb a2 af
  have la2 := World.block_lt_of_cell? _ _ b0
  clear hb a0 a2 af d0 c0 c1 cf
  obtain ⟨V, hV⟩ : ∃ V, V = w2.setCell ⟨a, 2, none⟩ (il (sh p lc)) := ⟨_, rfl⟩
  have v0 : V.cell? ⟨a, 0, none⟩ = some (.slice (some ⟨ib, 0, none⟩) 1 icap) := by
    rw [hV, World.cell?_setCell_other _ _ _ _ (by intro e; injection e with _ e2 _; omega)]; exact b0
  rw [← hV] at HI0
  have lav := World.block_lt_of_cell? _ _ v0
  go_wp2_with fail
  rw [← hV]
  clear hV b0 b2 bf
  go_wp2_with fail
  go_loopw [67] (fun i wr => OI I0 I2 i wr) (fun i _ => 1 - (intOf i).toNat)
  case atStart => exact .inl ⟨rfl, HI0⟩
  case round =>
    clear v0
    rcases hrel with ⟨rfl, HK⟩ | ⟨rfl, HK⟩
    · obtain ⟨r0, hic, him, hib⟩ := HI.out wr (.inl HK.out)
      have lar := World.block_lt_of_cell? _ _ r0
      go_wp2_with fail
      refine (HS1.out wr HK.out).mono ?_
      rintro e w3 ⟨rfl, h3⟩
      have H3 := Lib.hid h3
      clear h3 r0 hib
      obtain ⟨q0, _, _, hib⟩ := HI.out w3 (.inr (.inl H3.out))
      have lar3 := World.block_lt_of_cell? _ _ q0
      go_wp2_with fail
      refine (HS2.out w3 H3.out).mono ?_
      rintro e w4 ⟨rfl, h4⟩
      have H4 := Lib.hid h4
      clear h4 q0 hib
      go_wp2_with fail
      go_roundw
      case rel => exact .inr ⟨rfl, H4⟩
      case measure => simp [intOf]
    · go_wp2_with fail
      go_end0
      exact ⟨rfl, HK.out⟩
end Go.Proofs.YtjlmaingeobgeaaDoor
