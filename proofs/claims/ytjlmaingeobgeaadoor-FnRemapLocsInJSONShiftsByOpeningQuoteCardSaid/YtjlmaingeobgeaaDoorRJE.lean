/- Proved here: the contracts of arrayOf, object1Of, dotOf and of flatten, node by node. Conditions as stated. -/
import Derived.Test.YtjlmaingeobgeaaDoorRJC
import Derived.WalkKit
import Derived.WalkSpells
import Derived.WalkLawsBesides
import Derived.Lib.Hide
import Derived.Lib.SliceRun
import Derived.Deep.RegionWith
import Derived.OwnWalk
import Derived.Laws.OwnMore
import Derived.BigRegion
import Derived.Deep.QuietTactic
import Derived.BigQuiet
import Derived.Carry
namespace Go.Proofs.YtjlmaingeobgeaaDoor
open Go.RowKit
set_option linter.unusedSimpArgs false
set_option linter.unusedVariables false

theorem asArrNo212 (x : Nat) (l : Int) (w : World) : Calls Tryd.prog 41 #[.agg #[ex 212 x, il l]] w fun e w' => e = .returned (.tuple #[il 0, .slice none 0 0, .bool false]) ∧ Below w.heap.size w w' := by
  go_enter Tryd.func41, Tryd.ntmps41
  go_wp2_with fail
  go_ret3
  exact ⟨rfl, (Below.refl _ _).alloc (Nat.le_refl _) _⟩

theorem asArrNo223 (x : Nat) (l : Int) (w : World) : Calls Tryd.prog 41 #[.agg #[ex 223 x, il l]] w fun e w' => e = .returned (.tuple #[il 0, .slice none 0 0, .bool false]) ∧ Below w.heap.size w w' := by
  go_enter Tryd.func41, Tryd.ntmps41
  go_wp2_with fail
  go_ret3
  exact ⟨rfl, (Below.refl _ _).alloc (Nat.le_refl _) _⟩

theorem asArrNo59 (x : Nat) (l : Int) (w : World) : Calls Tryd.prog 41 #[.agg #[ex 59 x, il l]] w fun e w' => e = .returned (.tuple #[il 0, .slice none 0 0, .bool false]) ∧ Below w.heap.size w w' := by
  go_enter Tryd.func41, Tryd.ntmps41
  go_wp2_with fail
  go_ret3
  exact ⟨rfl, (Below.refl _ _).alloc (Nat.le_refl _) _⟩

theorem asArrNo262 (x : Nat) (l : Int) (w : World) : Calls Tryd.prog 41 #[.agg #[ex 262 x, il l]] w fun e w' => e = .returned (.tuple #[il 0, .slice none 0 0, .bool false]) ∧ Below w.heap.size w w' := by
  go_enter Tryd.func41, Tryd.ntmps41
  go_wp2_with fail
  go_ret3
  exact ⟨rfl, (Below.refl _ _).alloc (Nat.le_refl _) _⟩

set_option maxRecDepth 100000 in
theorem asArr (a : Nat) (l lc : Int) (v v1 v3 v4 : Value) (ar : Option Addr) (n c : Nat) (w : World) (h : At w a 258 #[.slice ar n c, v1, il lc, v3, v4]) : Calls Tryd.prog 41 #[.agg #[ex 255 a, il l]] w fun e w' => e = .returned (.tuple #[il lc, .slice ar n c, .bool true]) ∧ Below w.heap.size w w' := by
  have la := h.lt
  have la1 : a < w.heap.size + 1 := by omega
  have a0 : w.cell? ⟨a, 0, none⟩ = some (.slice ar n c) := by rw [h.cell]; rfl
  have a2 : w.cell? ⟨a, 2, none⟩ = some (il lc) := by rw [h.cell]; rfl
  clear h
  go_enter Tryd.func41, Tryd.ntmps41
  go_wp2_with fail
  go_quiet (fail)
  go_wp2_with fail
  go_ret3
  exact ⟨rfl, below_drewN ((Below.refl _ _).alloc (Nat.le_refl _) _) _⟩

def NoOb (w : World) (e : Ending) (w' : World) : Prop := e = .returned (.tuple #[il 0, .agg #[.nilIface, il 0], .agg #[.nilIface, il 0], .bool false]) ∧ Below w.heap.size w w'

set_option maxRecDepth 100000 in
theorem asObNo212 (x : Nat) (l : Int) (w : World) : Calls Tryd.prog 43 #[.agg #[ex 212 x, il l]] w (NoOb w) := by
  go_enter Tryd.func43, Tryd.ntmps43
  go_wp2_with fail
  refine bodyPost_ret (v := .tuple #[il 0, .agg #[.nilIface, il 0], .agg #[.nilIface, il 0], .bool false]) (by simp [results, Tryd.results43, go_sem]) rfl ⟨rfl, ?_⟩
  exact (((Below.refl _ _).alloc (Nat.le_refl _) _).alloc (by simp) _).alloc (by simp; omega) _

set_option maxRecDepth 100000 in
theorem asObNo223 (x : Nat) (l : Int) (w : World) : Calls Tryd.prog 43 #[.agg #[ex 223 x, il l]] w (NoOb w) := by
  go_enter Tryd.func43, Tryd.ntmps43
  go_wp2_with fail
  refine bodyPost_ret (v := .tuple #[il 0, .agg #[.nilIface, il 0], .agg #[.nilIface, il 0], .bool false]) (by simp [results, Tryd.results43, go_sem]) rfl ⟨rfl, ?_⟩
  exact (((Below.refl _ _).alloc (Nat.le_refl _) _).alloc (by simp) _).alloc (by simp; omega) _

set_option maxRecDepth 100000 in
theorem asObNo262 (x : Nat) (l : Int) (w : World) : Calls Tryd.prog 43 #[.agg #[ex 262 x, il l]] w (NoOb w) := by
  go_enter Tryd.func43, Tryd.ntmps43
  go_wp2_with fail
  refine bodyPost_ret (v := .tuple #[il 0, .agg #[.nilIface, il 0], .agg #[.nilIface, il 0], .bool false]) (by simp [results, Tryd.results43, go_sem]) rfl ⟨rfl, ?_⟩
  exact (((Below.refl _ _).alloc (Nat.le_refl _) _).alloc (by simp) _).alloc (by simp; omega) _

set_option maxRecDepth 100000 in
set_option maxHeartbeats 1000000 in
theorem asOb (a ib c T1 T2 p1 p2 : Nat) (l lc u1 u2 : Int) (v1 v3 v4 : Value) (w : World) (h : At w a 71 #[.slice (some ⟨ib, 0, none⟩) 1 c, v1, il lc, v3, v4]) (hp : At w ib 231 #[.pointer none, ex T1 p1, il u1, ex T2 p2, il u2, .nilIface, il 0, .slice none 0 0, il 0, il 0, .int .u8 0, .int .u8 0]) :
    Calls Tryd.prog 43 #[.agg #[ex 59 a, il l]] w fun e w' => e = .returned (.tuple #[il lc, .agg #[ex T1 p1, il u1], .agg #[ex T2 p2, il u2], .bool true]) ∧ Below w.heap.size w w' := by
  have la := h.lt
  have li := hp.lt
  have la1 : a < w.heap.size + 1 := by omega
  have la2 : a < w.heap.size + 1 + 1 := by omega
  have la3 : a < w.heap.size + 1 + 1 + 1 := by omega
  have li1 : ib < w.heap.size + 1 := by omega
  have li2 : ib < w.heap.size + 1 + 1 := by omega
  have li3 : ib < w.heap.size + 1 + 1 + 1 := by omega
  have a0 : w.cell? ⟨a, 0, none⟩ = some (.slice (some ⟨ib, 0, none⟩) 1 c) := by rw [h.cell]; rfl
  have a2 : w.cell? ⟨a, 2, none⟩ = some (il lc) := by rw [h.cell]; rfl
  have p1' : w.cell? ⟨ib, 1, none⟩ = some (ex T1 p1) := by rw [hp.cell]; rfl
  have p2' : w.cell? ⟨ib, 2, none⟩ = some (il u1) := by rw [hp.cell]; rfl
  have p3' : w.cell? ⟨ib, 3, none⟩ = some (ex T2 p2) := by rw [hp.cell]; rfl
  have p4' : w.cell? ⟨ib, 4, none⟩ = some (il u2) := by rw [hp.cell]; rfl
  clear h hp
  go_enter Tryd.func43, Tryd.ntmps43
  go_wp2_with fail
  obtain ⟨V, hV⟩ : ∃ V, V = ((w.alloc (.cells #[ex 59 a, il l] 35)).alloc (.cells #[.nilIface, il 0] 35)).alloc (.cells #[.nilIface, il 0] 35) := ⟨_, rfl⟩
  have hb : Below w.heap.size w V := by rw [hV]; exact (((Below.refl _ _).alloc (Nat.le_refl _) _).alloc (by simp) _).alloc (by simp; omega) _
  have R1 : At V (w.heap.size + 1) 35 #[.nilIface, il 0] := by rw [hV]; exact (at2 _ _ _ _).alloc _
  have R2 : At V (w.heap.size + 1 + 1) 35 #[.nilIface, il 0] := by rw [hV]; exact at3 _ _ _ _ _
  rw [← hV]
  have q0 := kept hb a0
  have q2 := kept hb a2
  have s1 := kept hb p1'
  have s2 := kept hb p2'
  have s3 := kept hb p3'
  have s4 := kept hb p4'
  have lq := World.block_lt_of_cell? _ _ q0
  have ls := World.block_lt_of_cell? _ _ s1
  have r10 : V.cell? ⟨w.heap.size + 1, 0, none⟩ = some .nilIface := by rw [R1.cell]; rfl
  have r11 : V.cell? ⟨w.heap.size + 1, 1, none⟩ = some (il 0) := by rw [R1.cell]; rfl
  have r20 : V.cell? ⟨w.heap.size + 1 + 1, 0, none⟩ = some .nilIface := by rw [R2.cell]; rfl
  have r21 : V.cell? ⟨w.heap.size + 1 + 1, 1, none⟩ = some (il 0) := by rw [R2.cell]; rfl
  have f10 := R1.frozen 0
  have f11 := R1.frozen 1
  have f20 := R2.frozen 0
  have f21 := R2.frozen 1
  have l1 := R1.lt
  have l2 := R2.lt
  have n1 : ¬ a = w.heap.size + 1 := by omega
  have n2 : ¬ a = w.heap.size + 1 + 1 := by omega
  have n3 : ¬ ib = w.heap.size + 1 := by omega
  have n4 : ¬ ib = w.heap.size + 1 + 1 := by omega
  have HB := Lib.hid hb
  clear hV hb R1 R2 a0 a2 p1' p2' p3' p4' la la1 la2 la3 li li1 li2 li3
  go_region
  go_wp2_with fail
  refine bodyPost_ret (v := .tuple #[il lc, .agg #[ex T1 p1, il u1], .agg #[ex T2 p2, il u2], .bool true]) (by simp [results, Tryd.results43, go_sem, *]) rfl ⟨rfl, ?_⟩
  repeat (first | with_reducible exact HB.out | (with_reducible refine Below.drew ?_) | (with_reducible refine Below.setCell ?_ (by (try simp); (try omega)) _))

def NoDot (w : World) (e : Ending) (w' : World) : Prop := e = .returned (.tuple #[il 0, .agg #[.nilIface, il 0], .bool false]) ∧ Below w.heap.size w w'

set_option maxRecDepth 100000 in
theorem asDtNo212 (x : Nat) (l : Int) (w : World) : Calls Tryd.prog 45 #[.agg #[ex 212 x, il l]] w (NoDot w) := by
  go_enter Tryd.func45, Tryd.ntmps45
  go_wp2_with fail
  refine bodyPost_ret (v := .tuple #[il 0, .agg #[.nilIface, il 0], .bool false]) (by simp [results, Tryd.results45, go_sem]) rfl ⟨rfl, ?_⟩
  exact ((Below.refl _ _).alloc (Nat.le_refl _) _).alloc (by simp) _

set_option maxRecDepth 100000 in
theorem asDtNo223 (x : Nat) (l : Int) (w : World) : Calls Tryd.prog 45 #[.agg #[ex 223 x, il l]] w (NoDot w) := by
  go_enter Tryd.func45, Tryd.ntmps45
  go_wp2_with fail
  refine bodyPost_ret (v := .tuple #[il 0, .agg #[.nilIface, il 0], .bool false]) (by simp [results, Tryd.results45, go_sem]) rfl ⟨rfl, ?_⟩
  exact ((Below.refl _ _).alloc (Nat.le_refl _) _).alloc (by simp) _

set_option maxRecDepth 100000 in
set_option maxHeartbeats 1000000 in
theorem asDt (a T1 p1 : Nat) (l lc u1 : Int) (w : World) (h : ∃ cs, At w a 266 cs ∧ cs[0]? = some (ex T1 p1) ∧ cs[1]? = some (il u1) ∧ cs[3]? = some (il lc)) :
    Calls Tryd.prog 45 #[.agg #[ex 262 a, il l]] w fun e w' => e = .returned (.tuple #[il lc, .agg #[ex T1 p1, il u1], .bool true]) ∧ Below w.heap.size w w' := by
  obtain ⟨cs, h, h0, h1, h3⟩ := h
  have la := h.lt
  have la1 : a < w.heap.size + 1 := by omega
  have la2 : a < w.heap.size + 1 + 1 := by omega
  have a0 : w.cell? ⟨a, 0, none⟩ = some (ex T1 p1) := by rw [h.cell]; exact h0
  have a1 : w.cell? ⟨a, 1, none⟩ = some (il u1) := by rw [h.cell]; exact h1
  have a3 : w.cell? ⟨a, 3, none⟩ = some (il lc) := by rw [h.cell]; exact h3
  clear h h0 h1 h3 cs
  go_enter Tryd.func45, Tryd.ntmps45
  go_wp2_with fail
  obtain ⟨V, hV⟩ : ∃ V, V = (w.alloc (.cells #[ex 262 a, il l] 35)).alloc (.cells #[.nilIface, il 0] 35) := ⟨_, rfl⟩
  have hb : Below w.heap.size w V := by rw [hV]; exact ((Below.refl _ _).alloc (Nat.le_refl _) _).alloc (by simp) _
  have R1 : At V (w.heap.size + 1) 35 #[.nilIface, il 0] := by rw [hV]; exact at2 _ _ _ _
  rw [← hV]
  have q0 := kept hb a0
  have q1 := kept hb a1
  have q3 := kept hb a3
  have lq := World.block_lt_of_cell? _ _ q0
  have r10 : V.cell? ⟨w.heap.size + 1, 0, none⟩ = some .nilIface := by rw [R1.cell]; rfl
  have r11 : V.cell? ⟨w.heap.size + 1, 1, none⟩ = some (il 0) := by rw [R1.cell]; rfl
  have f10 := R1.frozen 0
  have f11 := R1.frozen 1
  have l1 := R1.lt
  have n1 : ¬ a = w.heap.size + 1 := by omega
  have HB := Lib.hid hb
  clear hV hb R1 a0 a1 a3 la la1 la2
  go_region
  go_wp2_with fail
  refine bodyPost_ret (v := .tuple #[il lc, .agg #[ex T1 p1, il u1], .bool true]) (by simp [results, Tryd.results45, go_sem, *]) rfl ⟨rfl, ?_⟩
  repeat (first | with_reducible exact HB.out | (with_reducible refine Below.drew ?_) | (with_reducible refine Below.setCell ?_ (by (try simp); (try omega)) _))

def OwnI (w : World) (B : Nat) (v : Value) (out : List Int) : Prop := w.ownsRow B 21 1 v out.length (out.map (Value.int .i32))
theorem info21 : (Tryd.prog.info? 21).map (fun i => (i.zero, i.size, i.bytes)) = some (some (.int .i32 0), 1, 4) := by kernel_rfl
theorem ownNe {w : World} {B x n : Nat} {e T : TypeId} {sz : Nat} {v : Value} {xs : List Value} {cs : Array Value} (h : w.ownsRow B e sz v n xs) (hat : At w x T cs) (hT : T ≠ e) : v.ownBlock ≠ some x := by
  intro hx
  obtain ⟨h0, ⟨h, _⟩ | ⟨g, cap, cur, h1, h2, h3, _⟩⟩ := h
  · rw [h] at hx; cases hx
  · rw [h1] at hx
    simp only [Value.ownBlock, Option.some.injEq] at hx
    exact atNe hat h3 hT hx.symm
theorem At.grown' {w w' : World} {row : Option Nat} {x : Nat} {T : TypeId} {cs : Array Value} (h : At w x T cs) (hg : w.grownBy w' row) (hne : row ≠ some x) : At w' x T cs := (hg.block x h.lt (fun e => hne e.symm)).trans h
/-- Every block but the rows of int32 is as it was. -/
def FT (W w' : World) : Prop := ∀ x T cs, T ≠ 21 → At W x T cs → At w' x T cs
theorem FT.refl (W : World) : FT W W := fun _ _ _ _ h => h
theorem FT.trans {a b c : World} (h1 : FT a b) (h2 : FT b c) : FT a c := fun x T cs hT h => h2 x T cs hT (h1 x T cs hT h)
theorem FT.below {a b : World} (hb : Below a.heap.size a b) : FT a b := fun _ _ _ _ h => At.below h hb h.lt
theorem FT.app {w1 w2 : World} {B n sz : Nat} {v : Value} {xs : List Value} (own : w1.ownsRow B 21 sz v n xs) (hg : w1.grownBy w2 v.ownBlock) : FT w1 w2 := fun _ _ _ hT h => At.grown' h hg (ownNe own h hT)
/-- What flatten does at the expression (d, l), for a tree that lies in w0: ys is written behind what there was. -/
def FLP (w0 W : World) (out ys : List Int) (e : Ending) (w' : World) : Prop := ∃ (a : Option Addr) (m c : Nat), e = .returned (.slice a m c) ∧ m = (out ++ ys).length ∧ w'.ownsRow w0.heap.size 21 1 (.slice a m c) m ((out ++ ys).map (Value.int .i32)) ∧ Below w0.heap.size w0 w' ∧ FT W w'
def FLC (w0 : World) (T x : Nat) (l : Int) (ys : List Int) : Prop := ∀ (W : World) (a : Option Addr) (n c : Nat) (out : List Int), Below w0.heap.size w0 W → n = out.length → W.ownsRow w0.heap.size 21 1 (.slice a n c) n (out.map (Value.int .i32)) → out.length + ys.length ≤ 200000 → Calls Tryd.prog 39 #[.agg #[ex T x, il l], .slice a n c] W (FLP w0 W out ys)
def cat (its : Nat → List Int) : Nat → List Int
  | 0 => []
  | k + 1 => cat its k ++ its k
theorem cat_mono (its : Nat → List Int) (k n : Nat) (h : k ≤ n) : (cat its k).length ≤ (cat its n).length := by
  induction n with
  | zero => rw [show k = 0 from by omega]; exact Nat.le_refl _
  | succ n ih =>
    by_cases e : k = n + 1
    · rw [e]; exact Nat.le_refl _
    · have := ih (by omega)
      simp only [cat, List.length_append]
      omega
def AF (w0 W : World) (out : List Int) (l lc : Int) (its : Nat → List Int) (n : Nat) (v i : Value) (wr : World) : Prop := ∃ (k : Nat) (a : Option Addr) (m c : Nat), i = .int .i64 k ∧ k ≤ n ∧ v = .slice a m c ∧ Hid (m = (out ++ (l :: lc :: cat its k)).length) ∧ Hid (wr.ownsRow w0.heap.size 21 1 (.slice a m c) m ((out ++ (l :: lc :: cat its k)).map (Value.int .i32))) ∧ Hid (Below w0.heap.size w0 wr) ∧ Hid (FT W wr)

theorem dbelow {w w' : World} {x p1 : Nat} {lc u1 : Int} (h : ∃ cs, At w x 266 cs ∧ cs[0]? = some (ex 212 p1) ∧ cs[1]? = some (il u1) ∧ cs[3]? = some (il lc)) (hb : Below w.heap.size w w') : ∃ cs, At w' x 266 cs ∧ cs[0]? = some (ex 212 p1) ∧ cs[1]? = some (il u1) ∧ cs[3]? = some (il lc) := by
  obtain ⟨cs, h0, h1⟩ := h
  exact ⟨cs, h0.below hb h0.lt, h1⟩

set_option maxRecDepth 100000 in
set_option maxHeartbeats 4000000 in
theorem flLeaf212 (w0 : World) (x : Nat) (l : Int) : FLC w0 212 x l ([l]) := by
  intro W a n c out hb hn hown hlen
  have HN := Lib.hid hn
  have hn1 : n ≤ 200000 := by omega
  have hlen2 : n + ([l]).length ≤ 200000 := by omega
  have HLEN := Lib.hid hlen2
  have HB := Lib.hid hb
  have HO := Lib.hid hown
  have zW := hb.size
  have hl3 : n + 1 ≤ 200000 := by have := HLEN.out; simp at this; omega
  clear hb hn hown hlen hlen2
  obtain ⟨i0, hi0, hz0, hz1, hz2⟩ := info_parts info21
  have I0 := Lib.hid hi0
  have I1 := Lib.hid hz0
  have I2 := Lib.hid hz1
  have I3 := Lib.hid hz2
  clear hi0 hz0 hz1 hz2
  have HT := Lib.hid (FT.refl W)
  go_enter Tryd.func39, Tryd.ntmps39
  go_wp2_with (with_reducible refine wpList_append_own _ (o := ⟨some 21, _, _, _, _, _⟩) rfl _ _ 74 rfl w0.heap.size 21 i0 (.int .i32 0) 1 4 Tryd.underlying74 I0.out I1.out I2.out I3.out rfl (by decide) (.slice a n c) (n) ((out).map (Value.int .i32)) rfl (World.ownsRow.alloc (World.ownsRow.alloc HO.out _) _) ⟨W.heap.size + 1, 0, none⟩ 1 1 [il l] rfl rfl ?e211 ?e212 ?e213 ?e214 ?e215 ?_)
  try (case e211 =>
    intro j u hj
    have hj0 : j = 0 := by rcases j with _ | j <;> simp at hj ⊢
    subst hj0
    simp at hj
    subst hj
    first | simp [Addr.add_lit, World.cell?_alloc_new]; done | (rw [Addr.add_lit]; exact ((at3 _ _ _ _ _).cell 0).trans rfl))
  try (case e212 => simp [Value.oneCell'])
  try (case e213 => unfold maxLen; omega)
  try (case e214 => omega)
  try (case e215 => (try simp); omega)
  intro v1 w1 hown1 hgr1 _
  obtain ⟨a1, c1, rfl⟩ := ownShape hown1
  have HB' := Lib.hid (show Below w0.heap.size w0 w1 from Below.grown ((HB.out.alloc (by have := HB.out.size; (try simp); omega) _).alloc (by have := HB.out.size; (try simp); omega) _) hgr1 (by have := HB.out.size; (try simp); omega) (fun x hx => (World.ownsRow.lt HO.out x hx).1))
  have HB := HB'
  clear HB'
  have HT' := Lib.hid (HT.out.trans ((FT.below (show Below W.heap.size W _ from (((Below.refl _ _).alloc (by (try simp); (try omega)) _).alloc (by (try simp); (try omega)) _))).trans (FT.app ((World.ownsRow.alloc (World.ownsRow.alloc HO.out _) _)) hgr1)))
  have HT := HT'
  clear HT'
  have HX := Lib.hid (show At w1 W.heap.size 35 #[ex 212 x, il l] from ((At.new W 35 _).alloc _).grown' hgr1 (fun e => absurd (World.ownsRow.lt HO.out _ e).2 (Nat.lt_irrefl _)))
  have HO1 := Lib.hid (show w1.ownsRow w0.heap.size 21 1 (.slice a1 (n + 1) c1) (n + 1) ((out ++ [l]).map (Value.int .i32)) from by rw [List.map_append]; have h := hown1; simpa using h)
  clear hown1 hgr1 HO
  have b0 : w1.cell? ⟨W.heap.size, 0, none⟩ = some (ex 212 x) := by rw [HX.out.cell]; rfl
  have b1 : w1.cell? ⟨W.heap.size, 1, none⟩ = some (il l) := by rw [HX.out.cell]; rfl
  have lx := HX.out.lt
  go_wp2_with fail
  refine (asArrNo212 x l w1).mono ?_
  rintro e y1 ⟨rfl, hb⟩
  have HX' := Lib.hid (HX.out.below hb HX.out.lt)
  have HX := HX'
  clear HX'
  have HO1' := Lib.hid (ownBelow HO1.out hb)
  have HO1 := HO1'
  clear HO1'
  have HT' := Lib.hid (HT.out.trans (FT.below hb))
  have HT := HT'
  clear HT'
  have HB' := Lib.hid (HB.out.trans (hb.mono HB.out.size))
  have HB := HB'
  clear HB' hb b0 b1 lx
  have b0 : y1.cell? ⟨W.heap.size, 0, none⟩ = some (ex 212 x) := by rw [HX.out.cell]; rfl
  have b1 : y1.cell? ⟨W.heap.size, 1, none⟩ = some (il l) := by rw [HX.out.cell]; rfl
  have lx := HX.out.lt
  go_wp2_with fail
  refine (asObNo212 x l y1).mono ?_
  rintro e y2 ⟨rfl, hb⟩
  have HX' := Lib.hid (HX.out.below hb HX.out.lt)
  have HX := HX'
  clear HX'
  have HO1' := Lib.hid (ownBelow HO1.out hb)
  have HO1 := HO1'
  clear HO1'
  have HT' := Lib.hid (HT.out.trans (FT.below hb))
  have HT := HT'
  clear HT'
  have HB' := Lib.hid (HB.out.trans (hb.mono HB.out.size))
  have HB := HB'
  clear HB' hb b0 b1 lx
  have b0 : y2.cell? ⟨W.heap.size, 0, none⟩ = some (ex 212 x) := by rw [HX.out.cell]; rfl
  have b1 : y2.cell? ⟨W.heap.size, 1, none⟩ = some (il l) := by rw [HX.out.cell]; rfl
  have lx := HX.out.lt
  go_wp2_with fail
  refine (asDtNo212 x l _).mono ?_
  rintro e y3 ⟨rfl, hb⟩
  have hb := (show Below y2.heap.size y2 _ from (((Below.refl _ _).alloc (by (try simp); (try omega)) _).alloc (by (try simp); (try omega)) _)).trans (hb.mono (by (try simp); (try omega)))
  have HX' := Lib.hid (HX.out.below hb HX.out.lt)
  have HX := HX'
  clear HX'
  have HO1' := Lib.hid (ownBelow HO1.out hb)
  have HO1 := HO1'
  clear HO1'
  have HT' := Lib.hid (HT.out.trans (FT.below hb))
  have HT := HT'
  clear HT'
  have HB' := Lib.hid (HB.out.trans (hb.mono HB.out.size))
  have HB := HB'
  clear HB' hb b0 b1 lx
  have b0 : y3.cell? ⟨W.heap.size, 0, none⟩ = some (ex 212 x) := by rw [HX.out.cell]; rfl
  have b1 : y3.cell? ⟨W.heap.size, 1, none⟩ = some (il l) := by rw [HX.out.cell]; rfl
  have lx := HX.out.lt
  go_wp2_with fail
  go_ret
  refine ⟨a1, n + 1, c1, rfl, by rw [HN.out]; simp, ?_, HB.out.alloc HB.out.size _, HT.out.trans (FT.below ((Below.refl _ _).alloc (Nat.le_refl _) _))⟩
  exact World.ownsRow.alloc HO1.out _

set_option maxRecDepth 100000 in
set_option maxHeartbeats 4000000 in
theorem flLeaf223 (w0 : World) (x : Nat) (l : Int) : FLC w0 223 x l ([l]) := by
  intro W a n c out hb hn hown hlen
  have HN := Lib.hid hn
  have hn1 : n ≤ 200000 := by omega
  have hlen2 : n + ([l]).length ≤ 200000 := by omega
  have HLEN := Lib.hid hlen2
  have HB := Lib.hid hb
  have HO := Lib.hid hown
  have zW := hb.size
  have hl3 : n + 1 ≤ 200000 := by have := HLEN.out; simp at this; omega
  clear hb hn hown hlen hlen2
  obtain ⟨i0, hi0, hz0, hz1, hz2⟩ := info_parts info21
  have I0 := Lib.hid hi0
  have I1 := Lib.hid hz0
  have I2 := Lib.hid hz1
  have I3 := Lib.hid hz2
  clear hi0 hz0 hz1 hz2
  have HT := Lib.hid (FT.refl W)
  go_enter Tryd.func39, Tryd.ntmps39
  go_wp2_with (with_reducible refine wpList_append_own _ (o := ⟨some 21, _, _, _, _, _⟩) rfl _ _ 74 rfl w0.heap.size 21 i0 (.int .i32 0) 1 4 Tryd.underlying74 I0.out I1.out I2.out I3.out rfl (by decide) (.slice a n c) (n) ((out).map (Value.int .i32)) rfl (World.ownsRow.alloc (World.ownsRow.alloc HO.out _) _) ⟨W.heap.size + 1, 0, none⟩ 1 1 [il l] rfl rfl ?e211 ?e212 ?e213 ?e214 ?e215 ?_)
  try (case e211 =>
    intro j u hj
    have hj0 : j = 0 := by rcases j with _ | j <;> simp at hj ⊢
    subst hj0
    simp at hj
    subst hj
    first | simp [Addr.add_lit, World.cell?_alloc_new]; done | (rw [Addr.add_lit]; exact ((at3 _ _ _ _ _).cell 0).trans rfl))
  try (case e212 => simp [Value.oneCell'])
  try (case e213 => unfold maxLen; omega)
  try (case e214 => omega)
  try (case e215 => (try simp); omega)
  intro v1 w1 hown1 hgr1 _
  obtain ⟨a1, c1, rfl⟩ := ownShape hown1
  have HB' := Lib.hid (show Below w0.heap.size w0 w1 from Below.grown ((HB.out.alloc (by have := HB.out.size; (try simp); omega) _).alloc (by have := HB.out.size; (try simp); omega) _) hgr1 (by have := HB.out.size; (try simp); omega) (fun x hx => (World.ownsRow.lt HO.out x hx).1))
  have HB := HB'
  clear HB'
  have HT' := Lib.hid (HT.out.trans ((FT.below (show Below W.heap.size W _ from (((Below.refl _ _).alloc (by (try simp); (try omega)) _).alloc (by (try simp); (try omega)) _))).trans (FT.app ((World.ownsRow.alloc (World.ownsRow.alloc HO.out _) _)) hgr1)))
  have HT := HT'
  clear HT'
  have HX := Lib.hid (show At w1 W.heap.size 35 #[ex 223 x, il l] from ((At.new W 35 _).alloc _).grown' hgr1 (fun e => absurd (World.ownsRow.lt HO.out _ e).2 (Nat.lt_irrefl _)))
  have HO1 := Lib.hid (show w1.ownsRow w0.heap.size 21 1 (.slice a1 (n + 1) c1) (n + 1) ((out ++ [l]).map (Value.int .i32)) from by rw [List.map_append]; have h := hown1; simpa using h)
  clear hown1 hgr1 HO
  have b0 : w1.cell? ⟨W.heap.size, 0, none⟩ = some (ex 223 x) := by rw [HX.out.cell]; rfl
  have b1 : w1.cell? ⟨W.heap.size, 1, none⟩ = some (il l) := by rw [HX.out.cell]; rfl
  have lx := HX.out.lt
  go_wp2_with fail
  refine (asArrNo223 x l w1).mono ?_
  rintro e y1 ⟨rfl, hb⟩
  have HX' := Lib.hid (HX.out.below hb HX.out.lt)
  have HX := HX'
  clear HX'
  have HO1' := Lib.hid (ownBelow HO1.out hb)
  have HO1 := HO1'
  clear HO1'
  have HT' := Lib.hid (HT.out.trans (FT.below hb))
  have HT := HT'
  clear HT'
  have HB' := Lib.hid (HB.out.trans (hb.mono HB.out.size))
  have HB := HB'
  clear HB' hb b0 b1 lx
  have b0 : y1.cell? ⟨W.heap.size, 0, none⟩ = some (ex 223 x) := by rw [HX.out.cell]; rfl
  have b1 : y1.cell? ⟨W.heap.size, 1, none⟩ = some (il l) := by rw [HX.out.cell]; rfl
  have lx := HX.out.lt
  go_wp2_with fail
  refine (asObNo223 x l y1).mono ?_
  rintro e y2 ⟨rfl, hb⟩
  have HX' := Lib.hid (HX.out.below hb HX.out.lt)
  have HX := HX'
  clear HX'
  have HO1' := Lib.hid (ownBelow HO1.out hb)
  have HO1 := HO1'
  clear HO1'
  have HT' := Lib.hid (HT.out.trans (FT.below hb))
  have HT := HT'
  clear HT'
  have HB' := Lib.hid (HB.out.trans (hb.mono HB.out.size))
  have HB := HB'
  clear HB' hb b0 b1 lx
  have b0 : y2.cell? ⟨W.heap.size, 0, none⟩ = some (ex 223 x) := by rw [HX.out.cell]; rfl
  have b1 : y2.cell? ⟨W.heap.size, 1, none⟩ = some (il l) := by rw [HX.out.cell]; rfl
  have lx := HX.out.lt
  go_wp2_with fail
  refine (asDtNo223 x l _).mono ?_
  rintro e y3 ⟨rfl, hb⟩
  have hb := (show Below y2.heap.size y2 _ from (((Below.refl _ _).alloc (by (try simp); (try omega)) _).alloc (by (try simp); (try omega)) _)).trans (hb.mono (by (try simp); (try omega)))
  have HX' := Lib.hid (HX.out.below hb HX.out.lt)
  have HX := HX'
  clear HX'
  have HO1' := Lib.hid (ownBelow HO1.out hb)
  have HO1 := HO1'
  clear HO1'
  have HT' := Lib.hid (HT.out.trans (FT.below hb))
  have HT := HT'
  clear HT'
  have HB' := Lib.hid (HB.out.trans (hb.mono HB.out.size))
  have HB := HB'
  clear HB' hb b0 b1 lx
  have b0 : y3.cell? ⟨W.heap.size, 0, none⟩ = some (ex 223 x) := by rw [HX.out.cell]; rfl
  have b1 : y3.cell? ⟨W.heap.size, 1, none⟩ = some (il l) := by rw [HX.out.cell]; rfl
  have lx := HX.out.lt
  go_wp2_with fail
  go_ret
  refine ⟨a1, n + 1, c1, rfl, by rw [HN.out]; simp, ?_, HB.out.alloc HB.out.size _, HT.out.trans (FT.below ((Below.refl _ _).alloc (Nat.le_refl _) _))⟩
  exact World.ownsRow.alloc HO1.out _

set_option maxRecDepth 100000 in
set_option maxHeartbeats 4000000 in
theorem flDot (p1 : Nat) (lc u1 : Int) (w0 : World) (x : Nat) (l : Int) (hd : ∃ cs, At w0 x 266 cs ∧ cs[0]? = some (ex 212 p1) ∧ cs[1]? = some (il u1) ∧ cs[3]? = some (il lc)) (hf : FLC w0 212 p1 u1 [u1]) : FLC w0 262 x l ([l, lc, u1]) := by
  intro W a n c out hb hn hown hlen
  have HD := Lib.hid hd
  have HF := Lib.hid hf
  clear hd hf
  have HN := Lib.hid hn
  have hn1 : n ≤ 200000 := by omega
  have hlen2 : n + ([l, lc, u1]).length ≤ 200000 := by omega
  have HLEN := Lib.hid hlen2
  have HB := Lib.hid hb
  have HO := Lib.hid hown
  have zW := hb.size
  have hl3 : n + 3 ≤ 200000 := by have := HLEN.out; simp at this; omega
  clear hb hn hown hlen hlen2
  obtain ⟨i0, hi0, hz0, hz1, hz2⟩ := info_parts info21
  have I0 := Lib.hid hi0
  have I1 := Lib.hid hz0
  have I2 := Lib.hid hz1
  have I3 := Lib.hid hz2
  clear hi0 hz0 hz1 hz2
  have HT := Lib.hid (FT.refl W)
  go_enter Tryd.func39, Tryd.ntmps39
  go_wp2_with (with_reducible refine wpList_append_own _ (o := ⟨some 21, _, _, _, _, _⟩) rfl _ _ 74 rfl w0.heap.size 21 i0 (.int .i32 0) 1 4 Tryd.underlying74 I0.out I1.out I2.out I3.out rfl (by decide) (.slice a n c) (n) ((out).map (Value.int .i32)) rfl (World.ownsRow.alloc (World.ownsRow.alloc HO.out _) _) ⟨W.heap.size + 1, 0, none⟩ 1 1 [il l] rfl rfl ?e211 ?e212 ?e213 ?e214 ?e215 ?_)
  try (case e211 =>
    intro j u hj
    have hj0 : j = 0 := by rcases j with _ | j <;> simp at hj ⊢
    subst hj0
    simp at hj
    subst hj
    first | simp [Addr.add_lit, World.cell?_alloc_new]; done | (rw [Addr.add_lit]; exact ((at3 _ _ _ _ _).cell 0).trans rfl))
  try (case e212 => simp [Value.oneCell'])
  try (case e213 => unfold maxLen; omega)
  try (case e214 => omega)
  try (case e215 => (try simp); omega)
  intro v1 w1 hown1 hgr1 _
  obtain ⟨a1, c1, rfl⟩ := ownShape hown1
  have HB' := Lib.hid (show Below w0.heap.size w0 w1 from Below.grown ((HB.out.alloc (by have := HB.out.size; (try simp); omega) _).alloc (by have := HB.out.size; (try simp); omega) _) hgr1 (by have := HB.out.size; (try simp); omega) (fun x hx => (World.ownsRow.lt HO.out x hx).1))
  have HB := HB'
  clear HB'
  have HT' := Lib.hid (HT.out.trans ((FT.below (show Below W.heap.size W _ from (((Below.refl _ _).alloc (by (try simp); (try omega)) _).alloc (by (try simp); (try omega)) _))).trans (FT.app ((World.ownsRow.alloc (World.ownsRow.alloc HO.out _) _)) hgr1)))
  have HT := HT'
  clear HT'
  have HX := Lib.hid (show At w1 W.heap.size 35 #[ex 262 x, il l] from ((At.new W 35 _).alloc _).grown' hgr1 (fun e => absurd (World.ownsRow.lt HO.out _ e).2 (Nat.lt_irrefl _)))
  have HO1 := Lib.hid (show w1.ownsRow w0.heap.size 21 1 (.slice a1 (n + 1) c1) (n + 1) ((out ++ [l]).map (Value.int .i32)) from by rw [List.map_append]; have h := hown1; simpa using h)
  clear hown1 hgr1 HO
  have b0 : w1.cell? ⟨W.heap.size, 0, none⟩ = some (ex 262 x) := by rw [HX.out.cell]; rfl
  have b1 : w1.cell? ⟨W.heap.size, 1, none⟩ = some (il l) := by rw [HX.out.cell]; rfl
  have lx := HX.out.lt
  go_wp2_with fail
  refine (asArrNo262 x l w1).mono ?_
  rintro e y1 ⟨rfl, hb⟩
  have HX' := Lib.hid (HX.out.below hb HX.out.lt)
  have HX := HX'
  clear HX'
  have HO1' := Lib.hid (ownBelow HO1.out hb)
  have HO1 := HO1'
  clear HO1'
  have HT' := Lib.hid (HT.out.trans (FT.below hb))
  have HT := HT'
  clear HT'
  have HB' := Lib.hid (HB.out.trans (hb.mono HB.out.size))
  have HB := HB'
  clear HB' hb b0 b1 lx
  have b0 : y1.cell? ⟨W.heap.size, 0, none⟩ = some (ex 262 x) := by rw [HX.out.cell]; rfl
  have b1 : y1.cell? ⟨W.heap.size, 1, none⟩ = some (il l) := by rw [HX.out.cell]; rfl
  have lx := HX.out.lt
  go_wp2_with fail
  refine (asObNo262 x l y1).mono ?_
  rintro e y2 ⟨rfl, hb⟩
  have HX' := Lib.hid (HX.out.below hb HX.out.lt)
  have HX := HX'
  clear HX'
  have HO1' := Lib.hid (ownBelow HO1.out hb)
  have HO1 := HO1'
  clear HO1'
  have HT' := Lib.hid (HT.out.trans (FT.below hb))
  have HT := HT'
  clear HT'
  have HB' := Lib.hid (HB.out.trans (hb.mono HB.out.size))
  have HB := HB'
  clear HB' hb b0 b1 lx
  have b0 : y2.cell? ⟨W.heap.size, 0, none⟩ = some (ex 262 x) := by rw [HX.out.cell]; rfl
  have b1 : y2.cell? ⟨W.heap.size, 1, none⟩ = some (il l) := by rw [HX.out.cell]; rfl
  have lx := HX.out.lt
  go_wp2_with fail
  have hbd : Below w0.heap.size w0 ((y2.alloc (.cells #[.nilIface, il 0] 35)).alloc (.cells #[.nilIface, il 0] 35)) := (HB.out.alloc HB.out.size _).alloc (by have := HB.out.size; simp; omega) _
  have hdd := dbelow HD.out hbd
  clear hbd
  refine (asDt x 212 p1 l lc u1 _ hdd).mono ?_
  rintro e y3 ⟨rfl, hb⟩
  have hb := (show Below y2.heap.size y2 _ from (((Below.refl _ _).alloc (by (try simp); (try omega)) _).alloc (by (try simp); (try omega)) _)).trans (hb.mono (by (try simp); (try omega)))
  have HX' := Lib.hid (HX.out.below hb HX.out.lt)
  have HX := HX'
  clear HX'
  have HO1' := Lib.hid (ownBelow HO1.out hb)
  have HO1 := HO1'
  clear HO1'
  have HT' := Lib.hid (HT.out.trans (FT.below hb))
  have HT := HT'
  clear HT'
  have HB' := Lib.hid (HB.out.trans (hb.mono HB.out.size))
  have HB := HB'
  clear HB' hb b0 b1 lx
  clear hdd
  have b0 : y3.cell? ⟨W.heap.size, 0, none⟩ = some (ex 262 x) := by rw [HX.out.cell]; rfl
  have b1 : y3.cell? ⟨W.heap.size, 1, none⟩ = some (il l) := by rw [HX.out.cell]; rfl
  have lx := HX.out.lt
  go_wp2_with (with_reducible refine wpList_append_own _ (o := ⟨some 75, _, _, _, _, _⟩) rfl _ _ 74 rfl w0.heap.size 21 i0 (.int .i32 0) 1 4 Tryd.underlying74 I0.out I1.out I2.out I3.out rfl (by decide) (.slice a1 (n + 1) c1) (n + 1) ((out ++ [l]).map (Value.int .i32)) rfl (World.ownsRow.alloc (World.ownsRow.alloc HO1.out _) _) ⟨y3.heap.size + 1, 0, none⟩ 1 1 [il lc] rfl rfl ?e751 ?e752 ?e753 ?e754 ?e755 ?_)
  try (case e751 =>
    intro j u hj
    have hj0 : j = 0 := by rcases j with _ | j <;> simp at hj ⊢
    subst hj0
    simp at hj
    subst hj
    first | simp [Addr.add_lit, World.cell?_alloc_new]; done | (rw [Addr.add_lit]; exact ((at3 _ _ _ _ _).cell 0).trans rfl))
  try (case e752 => simp [Value.oneCell'])
  try (case e753 => unfold maxLen; omega)
  try (case e754 => omega)
  try (case e755 => (try simp); omega)
  intro v1 w5 hown1 hgr1 _
  obtain ⟨a5, c5, rfl⟩ := ownShape hown1
  have HB' := Lib.hid (show Below w0.heap.size w0 w5 from Below.grown ((HB.out.alloc (by have := HB.out.size; (try simp); omega) _).alloc (by have := HB.out.size; (try simp); omega) _) hgr1 (by have := HB.out.size; (try simp); omega) (fun x hx => (World.ownsRow.lt HO1.out x hx).1))
  have HB := HB'
  clear HB'
  have HT' := Lib.hid (HT.out.trans ((FT.below (show Below y3.heap.size y3 _ from (((Below.refl _ _).alloc (by (try simp); (try omega)) _).alloc (by (try simp); (try omega)) _))).trans (FT.app ((World.ownsRow.alloc (World.ownsRow.alloc HO1.out _) _)) hgr1)))
  have HT := HT'
  clear HT'
  have HK := Lib.hid (show At w5 y3.heap.size 35 #[ex 212 p1, il u1] from ((At.new y3 35 _).alloc _).grown' hgr1 (fun e => absurd (World.ownsRow.lt HO1.out _ e).2 (Nat.lt_irrefl _)))
  have HO5 := Lib.hid (show w5.ownsRow w0.heap.size 21 1 (.slice a5 (n + 1 + 1) c5) (n + 1 + 1) ((out ++ [l] ++ [lc]).map (Value.int .i32)) from by rw [List.map_append]; have h := hown1; simpa using h)
  clear hown1 hgr1 HO1
  have k0 : w5.cell? ⟨y3.heap.size, 0, none⟩ = some (ex 212 p1) := by rw [HK.out.cell]; rfl
  have k1 : w5.cell? ⟨y3.heap.size, 1, none⟩ = some (il u1) := by rw [HK.out.cell]; rfl
  have lk := HK.out.lt
  clear b0 b1 lx
  go_wp2_with fail
  refine (HF.out w5 a5 (n + 1 + 1) c5 (out ++ [l] ++ [lc]) HB.out (by rw [HN.out]; simp) HO5.out (by have := HLEN.out; have := HN.out; simp at *; omega)).mono ?_
  rintro e z ⟨az, mz, cz, rfl, hm, ho, hbz, hft⟩
  have HM := Lib.hid hm
  have HOZ := Lib.hid ho
  have HBZ := Lib.hid hbz
  have HTZ := Lib.hid (HT.out.trans hft)
  clear hm ho hbz hft
  go_wp2_with fail
  go_ret
  exact ⟨az, mz, cz, rfl, by rw [HM.out]; simp, by have h := HOZ.out; simpa using h, HBZ.out, HTZ.out⟩

set_option maxRecDepth 100000 in
set_option maxHeartbeats 4000000 in
theorem flArr (ib m0 icap : Nat) (T p : Nat → Nat) (li : Nat → Int) (its : Nat → List Int) (lc : Int) (v1 v3 v4 : Value) (w0 : World) (x : Nat) (l : Int) (hA : At w0 x 258 #[.slice (some ⟨ib, 0, none⟩) m0 icap, v1, il lc, v3, v4]) (hm0 : m0 ≤ 100000) (hic : m0 ≤ icap ∧ icap ≤ maxLen)
    (hrow : ∀ k, k < m0 → w0.cell? ⟨ib, k * 2, none⟩ = some (ex (T k) (p k)) ∧ w0.cell? ⟨ib, k * 2 + 1, none⟩ = some (il (li k))) (hf : ∀ k, k < m0 → FLC w0 (T k) (p k) (li k) (its k)) : FLC w0 255 x l (l :: lc :: cat its m0) := by
  intro W a n c out hb hn hown hlen
  have HA := Lib.hid hA
  have HROW := Lib.hid hrow
  have HF := Lib.hid hf
  have hmi : (m0 : Int) ≤ 100000 := by omega
  have hmi0 : (0 : Int) ≤ (m0 : Int) := Int.natCast_nonneg _
  clear hA hrow hf
  have HN := Lib.hid hn
  have hlen2 : n + (cat its m0).length + 2 ≤ 200000 := by simp at hlen; omega
  have hn1 : n + 2 ≤ 200000 := by omega
  have HLEN := Lib.hid hlen2
  have HB := Lib.hid hb
  have HO := Lib.hid hown
  have zW := hb.size
  clear hb hn hown hlen hlen2
  obtain ⟨i0, hi0, hz0, hz1, hz2⟩ := info_parts info21
  have I0 := Lib.hid hi0
  have I1 := Lib.hid hz0
  have I2 := Lib.hid hz1
  have I3 := Lib.hid hz2
  clear hi0 hz0 hz1 hz2
  have HT := Lib.hid (FT.refl W)
  go_enter Tryd.func39, Tryd.ntmps39
  go_wp2_with (with_reducible refine wpList_append_own _ (o := ⟨some 21, _, _, _, _, _⟩) rfl _ _ 74 rfl w0.heap.size 21 i0 (.int .i32 0) 1 4 Tryd.underlying74 I0.out I1.out I2.out I3.out rfl (by decide) (.slice a n c) (n) ((out).map (Value.int .i32)) rfl (World.ownsRow.alloc (World.ownsRow.alloc HO.out _) _) ⟨W.heap.size + 1, 0, none⟩ 1 1 [il l] rfl rfl ?e211 ?e212 ?e213 ?e214 ?e215 ?_)
  try (case e211 =>
    intro j u hj
    have hj0 : j = 0 := by rcases j with _ | j <;> simp at hj ⊢
    subst hj0
    simp at hj
    subst hj
    first | simp [Addr.add_lit, World.cell?_alloc_new]; done | (rw [Addr.add_lit]; exact ((at3 _ _ _ _ _).cell 0).trans rfl))
  try (case e212 => simp [Value.oneCell'])
  try (case e213 => unfold maxLen; omega)
  try (case e214 => omega)
  try (case e215 => (try simp); omega)
  intro v1 w1 hown1 hgr1 _
  obtain ⟨a1, c1, rfl⟩ := ownShape hown1
  have HB' := Lib.hid (show Below w0.heap.size w0 w1 from Below.grown ((HB.out.alloc (by have := HB.out.size; (try simp); omega) _).alloc (by have := HB.out.size; (try simp); omega) _) hgr1 (by have := HB.out.size; (try simp); omega) (fun x hx => (World.ownsRow.lt HO.out x hx).1))
  have HB := HB'
  clear HB'
  have HT' := Lib.hid (HT.out.trans ((FT.below (show Below W.heap.size W _ from (((Below.refl _ _).alloc (by (try simp); (try omega)) _).alloc (by (try simp); (try omega)) _))).trans (FT.app ((World.ownsRow.alloc (World.ownsRow.alloc HO.out _) _)) hgr1)))
  have HT := HT'
  clear HT'
  have HX := Lib.hid (show At w1 W.heap.size 35 #[ex 255 x, il l] from ((At.new W 35 _).alloc _).grown' hgr1 (fun e => absurd (World.ownsRow.lt HO.out _ e).2 (Nat.lt_irrefl _)))
  have HO1 := Lib.hid (show w1.ownsRow w0.heap.size 21 1 (.slice a1 (n + 1) c1) (n + 1) ((out ++ [l]).map (Value.int .i32)) from by rw [List.map_append]; have h := hown1; simpa using h)
  clear hown1 hgr1 HO
  have b0 : w1.cell? ⟨W.heap.size, 0, none⟩ = some (ex 255 x) := by rw [HX.out.cell]; rfl
  have b1 : w1.cell? ⟨W.heap.size, 1, none⟩ = some (il l) := by rw [HX.out.cell]; rfl
  have lx := HX.out.lt
  go_wp2_with fail
  have haa := HA.out.below HB.out HA.out.lt
  refine (asArr x l lc (.bool false) v1 v3 v4 (some ⟨ib, 0, none⟩) m0 icap w1 haa).mono ?_
  rintro e y1 ⟨rfl, hb⟩
  have HX' := Lib.hid (HX.out.below hb HX.out.lt)
  have HX := HX'
  clear HX'
  have HO1' := Lib.hid (ownBelow HO1.out hb)
  have HO1 := HO1'
  clear HO1'
  have HT' := Lib.hid (HT.out.trans (FT.below hb))
  have HT := HT'
  clear HT'
  have HB' := Lib.hid (HB.out.trans (hb.mono HB.out.size))
  have HB := HB'
  clear HB' hb b0 b1 lx
  clear haa
  have b0 : y1.cell? ⟨W.heap.size, 0, none⟩ = some (ex 255 x) := by rw [HX.out.cell]; rfl
  have b1 : y1.cell? ⟨W.heap.size, 1, none⟩ = some (il l) := by rw [HX.out.cell]; rfl
  have lx := HX.out.lt
  go_wp2_with (with_reducible refine wpList_append_own _ (o := ⟨some 32, _, _, _, _, _⟩) rfl _ _ 74 rfl w0.heap.size 21 i0 (.int .i32 0) 1 4 Tryd.underlying74 I0.out I1.out I2.out I3.out rfl (by decide) (.slice a1 (n + 1) c1) (n + 1) ((out ++ [l]).map (Value.int .i32)) rfl (World.ownsRow.alloc HO1.out _) ⟨y1.heap.size, 0, none⟩ 1 1 [il lc] rfl rfl ?e321 ?e322 ?e323 ?e324 ?e325 ?_)
  try (case e321 =>
    intro j u hj
    have hj0 : j = 0 := by rcases j with _ | j <;> simp at hj ⊢
    subst hj0
    simp at hj
    subst hj
    first | simp [Addr.add_lit, World.cell?_alloc_new]; done | (rw [Addr.add_lit]; exact ((at3 _ _ _ _ _).cell 0).trans rfl))
  try (case e322 => simp [Value.oneCell'])
  try (case e323 => unfold maxLen; omega)
  try (case e324 => omega)
  try (case e325 => (try simp); omega)
  intro v1 w3 hown1 hgr1 _
  obtain ⟨a3, c3, rfl⟩ := ownShape hown1
  have HB' := Lib.hid (show Below w0.heap.size w0 w3 from Below.grown (HB.out.alloc (by have := HB.out.size; (try simp); omega) _) hgr1 (by have := HB.out.size; (try simp); omega) (fun x hx => (World.ownsRow.lt HO1.out x hx).1))
  have HB := HB'
  clear HB'
  have HT' := Lib.hid (HT.out.trans ((FT.below (show Below y1.heap.size y1 _ from ((Below.refl _ _).alloc (by (try simp); (try omega)) _))).trans (FT.app ((World.ownsRow.alloc HO1.out _)) hgr1)))
  have HT := HT'
  clear HT'
  have HO3 := Lib.hid (show w3.ownsRow w0.heap.size 21 1 (.slice a3 (n + 1 + 1) c3) (n + 1 + 1) ((out ++ [l] ++ [lc]).map (Value.int .i32)) from by rw [List.map_append]; have h := hown1; simpa using h)
  clear hown1 hgr1 HO1
  clear b0 b1 lx HX
  go_wp2_with fail
  go_loopw [1, 8] (fun v i wr => AF w0 W out l lc its m0 v i wr) (fun _ i _ => m0 - (intOf i).toNat)
  case atStart => exact ⟨0, _, _, _, rfl, Nat.zero_le _, rfl, Lib.hid (by rw [HN.out]; simp [cat]), Lib.hid (by have h := HO3.out; simpa [cat] using h), HB, HT⟩
  case round =>
    obtain ⟨k, ak, mk, ck, rfl, hk, rfl, HM, HOK, HBK, HTK⟩ := hrel
    clear HB HO3 HT
    by_cases hlt : k < m0
    · have c0 : wr.cell? ⟨ib, k * 2, none⟩ = some (ex (T k) (p k)) := by
        have h := (HROW.out k hlt).1
        rw [HBK.out.cell (p := ⟨ib, k * 2, none⟩) (World.block_lt_of_cell? _ _ h)]; exact h
      have c1 : wr.cell? ⟨ib, k * 2 + 1, none⟩ = some (il (li k)) := by
        have h := (HROW.out k hlt).2
        rw [HBK.out.cell (p := ⟨ib, k * 2 + 1, none⟩) (World.block_lt_of_cell? _ _ h)]; exact h
      have lib := World.block_lt_of_cell? _ _ c0
      obtain ⟨tk, htk⟩ : ∃ tk, tk = T k := ⟨_, rfl⟩
      obtain ⟨pk, hpk⟩ : ∃ pk, pk = p k := ⟨_, rfl⟩
      obtain ⟨lk, hlk⟩ : ∃ lk, lk = li k := ⟨_, rfl⟩
      rw [← htk, ← hpk] at c0
      rw [← hlk] at c1
      have HFK := Lib.hid (show FLC w0 tk pk lk (its k) from by rw [htk, hpk, hlk]; exact HF.out k hlt)
      have HCM := Lib.hid (cat_mono its (k + 1) m0 (by omega))
      clear htk hpk hlk
      go_wp2_with fail
      refine (HFK.out wr ak mk ck (out ++ (l :: lc :: cat its k)) HBK.out HM.out HOK.out (by have := HLEN.out; have := HN.out; have := HCM.out; simp only [cat, List.length_append, List.length_cons] at *; omega)).mono ?_
      rintro e z ⟨az, mz, cz, rfl, hm, ho, hbz, hft⟩
      have HTZ := Lib.hid (HTK.out.trans hft)
      have HMZ := Lib.hid (show mz = (out ++ (l :: lc :: cat its (k + 1))).length from by rw [hm]; simp [cat]; try omega)
      have HOZ := Lib.hid (show z.ownsRow w0.heap.size 21 1 (.slice az mz cz) mz ((out ++ (l :: lc :: cat its (k + 1))).map (Value.int .i32)) from by simpa [cat] using ho)
      have HBZ := Lib.hid hbz
      clear hm ho hbz hft c0 c1
      go_wp2_with fail
      go_roundw
      case rel => exact ⟨k + 1, az, mz, cz, by go_num, by omega, rfl, HMZ, HOZ, HBZ, HTZ⟩
      case measure => simp [intOf]; omega
    · obtain rfl : m0 = k := by omega
      go_wp2_with fail
      go_ret
      exact ⟨ak, mk, ck, rfl, HM.out, HOK.out, HBK.out, HTK.out⟩

set_option maxRecDepth 100000 in
set_option maxHeartbeats 4000000 in
theorem flObj (ib c9 TA TB p1 p2 : Nat) (lc u1 u2 : Int) (v1 v3 v4 : Value) (ys1 ys2 : List Int) (w0 : World) (x : Nat) (l : Int) (hA : At w0 x 71 #[.slice (some ⟨ib, 0, none⟩) 1 c9, v1, il lc, v3, v4]) (hP : At w0 ib 231 #[.pointer none, ex TA p1, il u1, ex TB p2, il u2, .nilIface, il 0, .slice none 0 0, il 0, il 0, .int .u8 0, .int .u8 0])
    (hf1 : FLC w0 TA p1 u1 ys1) (hf2 : FLC w0 TB p2 u2 ys2) : FLC w0 59 x l (l :: lc :: (ys1 ++ ys2)) := by
  intro W a n c out hb hn hown hlen
  have HA := Lib.hid hA
  have HP := Lib.hid hP
  have HF1 := Lib.hid hf1
  have HF2 := Lib.hid hf2
  clear hA hP hf1 hf2
  have HN := Lib.hid hn
  have hlen2 : n + ys1.length + ys2.length + 2 ≤ 200000 := by simp at hlen; omega
  have hn1 : n + 2 ≤ 200000 := by omega
  have HLEN := Lib.hid hlen2
  have HB := Lib.hid hb
  have HO := Lib.hid hown
  have zW := hb.size
  clear hb hn hown hlen hlen2
  obtain ⟨i0, hi0, hz0, hz1, hz2⟩ := info_parts info21
  have I0 := Lib.hid hi0
  have I1 := Lib.hid hz0
  have I2 := Lib.hid hz1
  have I3 := Lib.hid hz2
  clear hi0 hz0 hz1 hz2
  have HT := Lib.hid (FT.refl W)
  go_enter Tryd.func39, Tryd.ntmps39
  go_wp2_with (with_reducible refine wpList_append_own _ (o := ⟨some 21, _, _, _, _, _⟩) rfl _ _ 74 rfl w0.heap.size 21 i0 (.int .i32 0) 1 4 Tryd.underlying74 I0.out I1.out I2.out I3.out rfl (by decide) (.slice a n c) (n) ((out).map (Value.int .i32)) rfl (World.ownsRow.alloc (World.ownsRow.alloc HO.out _) _) ⟨W.heap.size + 1, 0, none⟩ 1 1 [il l] rfl rfl ?e211 ?e212 ?e213 ?e214 ?e215 ?_)
  try (case e211 =>
    intro j u hj
    have hj0 : j = 0 := by rcases j with _ | j <;> simp at hj ⊢
    subst hj0
    simp at hj
    subst hj
    first | simp [Addr.add_lit, World.cell?_alloc_new]; done | (rw [Addr.add_lit]; exact ((at3 _ _ _ _ _).cell 0).trans rfl))
  try (case e212 => simp [Value.oneCell'])
  try (case e213 => unfold maxLen; omega)
  try (case e214 => omega)
  try (case e215 => (try simp); omega)
  intro v1 w1 hown1 hgr1 _
  obtain ⟨a1, c1, rfl⟩ := ownShape hown1
  have HB' := Lib.hid (show Below w0.heap.size w0 w1 from Below.grown ((HB.out.alloc (by have := HB.out.size; (try simp); omega) _).alloc (by have := HB.out.size; (try simp); omega) _) hgr1 (by have := HB.out.size; (try simp); omega) (fun x hx => (World.ownsRow.lt HO.out x hx).1))
  have HB := HB'
  clear HB'
  have HT' := Lib.hid (HT.out.trans ((FT.below (show Below W.heap.size W _ from (((Below.refl _ _).alloc (by (try simp); (try omega)) _).alloc (by (try simp); (try omega)) _))).trans (FT.app ((World.ownsRow.alloc (World.ownsRow.alloc HO.out _) _)) hgr1)))
  have HT := HT'
  clear HT'
  have HX := Lib.hid (show At w1 W.heap.size 35 #[ex 59 x, il l] from ((At.new W 35 _).alloc _).grown' hgr1 (fun e => absurd (World.ownsRow.lt HO.out _ e).2 (Nat.lt_irrefl _)))
  have HO1 := Lib.hid (show w1.ownsRow w0.heap.size 21 1 (.slice a1 (n + 1) c1) (n + 1) ((out ++ [l]).map (Value.int .i32)) from by rw [List.map_append]; have h := hown1; simpa using h)
  clear hown1 hgr1 HO
  have b0 : w1.cell? ⟨W.heap.size, 0, none⟩ = some (ex 59 x) := by rw [HX.out.cell]; rfl
  have b1 : w1.cell? ⟨W.heap.size, 1, none⟩ = some (il l) := by rw [HX.out.cell]; rfl
  have lx := HX.out.lt
  go_wp2_with fail
  refine (asArrNo59 x l w1).mono ?_
  rintro e y1 ⟨rfl, hb⟩
  have HX' := Lib.hid (HX.out.below hb HX.out.lt)
  have HX := HX'
  clear HX'
  have HO1' := Lib.hid (ownBelow HO1.out hb)
  have HO1 := HO1'
  clear HO1'
  have HT' := Lib.hid (HT.out.trans (FT.below hb))
  have HT := HT'
  clear HT'
  have HB' := Lib.hid (HB.out.trans (hb.mono HB.out.size))
  have HB := HB'
  clear HB' hb b0 b1 lx
  have b0 : y1.cell? ⟨W.heap.size, 0, none⟩ = some (ex 59 x) := by rw [HX.out.cell]; rfl
  have b1 : y1.cell? ⟨W.heap.size, 1, none⟩ = some (il l) := by rw [HX.out.cell]; rfl
  have lx := HX.out.lt
  go_wp2_with fail
  have hoo := HA.out.below HB.out HA.out.lt
  have hpp := HP.out.below HB.out HP.out.lt
  refine (asOb x ib c9 TA TB p1 p2 l lc u1 u2 v1 v3 v4 _ hoo hpp).mono ?_
  rintro e y2 ⟨rfl, hb⟩
  have HX' := Lib.hid (HX.out.below hb HX.out.lt)
  have HX := HX'
  clear HX'
  have HO1' := Lib.hid (ownBelow HO1.out hb)
  have HO1 := HO1'
  clear HO1'
  have HT' := Lib.hid (HT.out.trans (FT.below hb))
  have HT := HT'
  clear HT'
  have HB' := Lib.hid (HB.out.trans (hb.mono HB.out.size))
  have HB := HB'
  clear HB' hb b0 b1 lx
  clear hoo hpp
  have b0 : y2.cell? ⟨W.heap.size, 0, none⟩ = some (ex 59 x) := by rw [HX.out.cell]; rfl
  have b1 : y2.cell? ⟨W.heap.size, 1, none⟩ = some (il l) := by rw [HX.out.cell]; rfl
  have lx := HX.out.lt
  go_wp2_with (with_reducible refine wpList_append_own _ (o := ⟨some 57, _, _, _, _, _⟩) rfl _ _ 74 rfl w0.heap.size 21 i0 (.int .i32 0) 1 4 Tryd.underlying74 I0.out I1.out I2.out I3.out rfl (by decide) (.slice a1 (n + 1) c1) (n + 1) ((out ++ [l]).map (Value.int .i32)) rfl (World.ownsRow.alloc (World.ownsRow.alloc (World.ownsRow.alloc HO1.out _) _) _) ⟨y2.heap.size + 1 + 1, 0, none⟩ 1 1 [il lc] rfl rfl ?e571 ?e572 ?e573 ?e574 ?e575 ?_)
  try (case e571 =>
    intro j u hj
    have hj0 : j = 0 := by rcases j with _ | j <;> simp at hj ⊢
    subst hj0
    simp at hj
    subst hj
    first | simp [Addr.add_lit, World.cell?_alloc_new]; done | (rw [Addr.add_lit]; exact ((at3 _ _ _ _ _).cell 0).trans rfl))
  try (case e572 => simp [Value.oneCell'])
  try (case e573 => unfold maxLen; omega)
  try (case e574 => omega)
  try (case e575 => (try simp); omega)
  intro v1 w4 hown1 hgr1 _
  obtain ⟨a4, c4, rfl⟩ := ownShape hown1
  have HB' := Lib.hid (show Below w0.heap.size w0 w4 from Below.grown (((HB.out.alloc (by have := HB.out.size; (try simp); omega) _).alloc (by have := HB.out.size; (try simp); omega) _).alloc (by have := HB.out.size; (try simp); omega) _) hgr1 (by have := HB.out.size; (try simp); omega) (fun x hx => (World.ownsRow.lt HO1.out x hx).1))
  have HB := HB'
  clear HB'
  have HT' := Lib.hid (HT.out.trans ((FT.below (show Below y2.heap.size y2 _ from ((((Below.refl _ _).alloc (by (try simp); (try omega)) _).alloc (by (try simp); (try omega)) _).alloc (by (try simp); (try omega)) _))).trans (FT.app ((World.ownsRow.alloc (World.ownsRow.alloc (World.ownsRow.alloc HO1.out _) _) _)) hgr1)))
  have HT := HT'
  clear HT'
  have HK := Lib.hid (show At w4 y2.heap.size 35 #[ex TA p1, il u1] from (((At.new y2 35 _).alloc _).alloc _).grown' hgr1 (fun e => absurd (World.ownsRow.lt HO1.out _ e).2 (Nat.lt_irrefl _)))
  have HV := Lib.hid (show At w4 (y2.heap.size + 1) 35 #[ex TB p2, il u2] from ((at2 _ _ _ _).alloc _).grown' hgr1 (fun e => absurd (World.ownsRow.lt HO1.out _ e).2 (by omega)))
  have HO4 := Lib.hid (show w4.ownsRow w0.heap.size 21 1 (.slice a4 (n + 1 + 1) c4) (n + 1 + 1) ((out ++ [l] ++ [lc]).map (Value.int .i32)) from by rw [List.map_append]; have h := hown1; simpa using h)
  clear hown1 hgr1 HO1
  have k0 : w4.cell? ⟨y2.heap.size, 0, none⟩ = some (ex TA p1) := by rw [HK.out.cell]; rfl
  have k1 : w4.cell? ⟨y2.heap.size, 1, none⟩ = some (il u1) := by rw [HK.out.cell]; rfl
  have lk := HK.out.lt
  clear b0 b1 lx
  go_wp2_with fail
  refine (HF1.out w4 a4 (n + 1 + 1) c4 (out ++ [l] ++ [lc]) HB.out (by rw [HN.out]; simp) HO4.out (by have := HLEN.out; have := HN.out; simp at *; omega)).mono ?_
  rintro e z ⟨az, mz, cz, rfl, hm, ho, hbz, hft⟩
  have HM := Lib.hid hm
  have HOZ := Lib.hid ho
  have HBZ := Lib.hid hbz
  have HTZ := Lib.hid (HT.out.trans hft)
  have HVZ := Lib.hid (hft _ _ _ (by decide) HV.out)
  clear hm ho hbz hft k0 k1 lk
  have k0 : z.cell? ⟨y2.heap.size + 1, 0, none⟩ = some (ex TB p2) := by rw [HVZ.out.cell]; rfl
  have k1 : z.cell? ⟨y2.heap.size + 1, 1, none⟩ = some (il u2) := by rw [HVZ.out.cell]; rfl
  have lk := HVZ.out.lt
  go_wp2_with fail
  refine (HF2.out z az mz cz (out ++ [l] ++ [lc] ++ ys1) HBZ.out HM.out HOZ.out (by have := HLEN.out; have := HN.out; simp at *; omega)).mono ?_
  rintro e z2 ⟨az2, mz2, cz2, rfl, hm, ho, hbz, hft⟩
  have HM2 := Lib.hid hm
  have HOZ2 := Lib.hid ho
  have HBZ2 := Lib.hid hbz
  have HTZ2 := Lib.hid (HTZ.out.trans hft)
  clear hm ho hbz hft
  go_wp2_with fail
  go_ret
  exact ⟨az2, mz2, cz2, rfl, by rw [HM2.out]; simp, by have h := HOZ2.out; simpa using h, HBZ2.out, HTZ2.out⟩
end Go.Proofs.YtjlmaingeobgeaaDoor
