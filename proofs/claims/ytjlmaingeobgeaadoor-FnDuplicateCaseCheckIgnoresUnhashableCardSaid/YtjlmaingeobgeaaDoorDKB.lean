/- Proved here: the contract of the duplicate case checker. Conditions as stated. -/
import Derived.Test.YtjlmaingeobgeaaDoorDKA
import Derived.Test.YtjlmaingeobgeaaDoorAPX
import Derived.WalkKit
import Derived.WalkSpells
import Derived.WalkLawsBesides
import Derived.Lib.Hide
import Derived.Lib.SliceRun
import Derived.Deep.RegionWith
import Derived.OwnWalk
import Derived.Laws.OwnMore
import Derived.Laws.BitsAllLaws
import Derived.Deep.QuietTactic
import Derived.BigQuiet
import Derived.BigRegion
namespace Go.Proofs.YtjlmaingeobgeaaDoor
open Go.RowKit
set_option linter.unusedSimpArgs false
set_option linter.unusedVariables false

theorem ownKeep {w w' : World} {B : Nat} {e : TypeId} {sz : Nat} {v : Value} {n : Nat} {xs : List Value} (h : w.ownsRow B e sz v n xs) (hb : ∀ k, v.ownBlock = some k → w'.heap[k]? = w.heap[k]?) : w'.ownsRow B e sz v n xs := by
  obtain ⟨hl, h | ⟨g, cap, cur, hv, h1, hg, h2⟩⟩ := h
  · exact ⟨hl, .inl h⟩
  · exact ⟨hl, .inr ⟨g, cap, cur, hv, h1, by rw [hb g (by rw [hv]; rfl)]; exact hg, h2⟩⟩

def tb (bs : Nat → Nat) (h : Nat) : Bool := (bs (h % 251 / 8)).testBit (h % 251 % 8)
def item (T : Nat) (f : Nat → Nat) (x : Nat × Nat) : List Value := [.iface T (.pointer (some ⟨x.2, 0, none⟩)), .int .i32 0, .int .u32 (f x.1 : Int)]
def rows (T : Nat) (f : Nat → Nat) (its : List (Nat × Nat)) : List Value := its.flatMap (item T f)
theorem rows_len (T : Nat) (f : Nat → Nat) (its : List (Nat × Nat)) : (rows T f its).length = its.length * 3 := by
  induction its with
  | nil => rfl
  | cons x l ih => simp only [rows, List.flatMap_cons, List.length_append] at *; rw [ih]; simp [item]; omega
theorem rows_snoc (T : Nat) (f : Nat → Nat) (its : List (Nat × Nat)) (x : Nat × Nat) : rows T f (its ++ [x]) = rows T f its ++ item T f x := by simp [rows]
theorem rows_get (T : Nat) (f : Nat → Nat) : ∀ (its : List (Nat × Nat)) (j k : Nat) (x : Nat × Nat), its[j]? = some x → k < 3 → (rows T f its)[j * 3 + k]? = (item T f x)[k]?
  | [], j, k, x, h, _ => by simp at h
  | y :: l, 0, k, x, h, hk => by
    simp at h
    subst h
    simp only [rows, List.flatMap_cons]
    rw [List.getElem?_append_left (by simp [item]; omega)]
    simp
  | y :: l, j + 1, k, x, h, hk => by
    simp at h
    simp only [rows, List.flatMap_cons]
    rw [List.getElem?_append_right (by simp [item]; omega)]
    have := rows_get T f l j k x h hk
    simp only [rows] at this
    rw [← this]
    congr 1
    simp [item]
    omega
/-- The checker at block D. -/
structure CK (w : World) (lo D : Nat) (v : Value) (its : List (Nat × Nat)) (f : Nat → Nat) (T : Nat) : Prop where
  low : lo ≤ D
  bits : ∃ (cs : Array Value) (bs : Nat → Nat), At w D 97 cs ∧ cs[0]? = some v ∧ (∀ j, j < 32 → cs[1 + j]? = some (.int .u8 (bs j : Int))) ∧ (∀ j, bs j ≤ 255) ∧ ∀ x, x ∈ its → tb bs (f x.1) = true
  row : w.ownsRow lo 216 3 v its.length (rows T f its)
  ne : v.ownBlock ≠ some D
def hit (f : Nat → Nat) (its : List (Nat × Nat)) (k : Nat) : Bool := its.any fun x => f x.1 == f k
def push (f : Nat → Nat) (its : List (Nat × Nat)) (k q : Nat) : List (Nat × Nat) := if hit f its k then its else its ++ [(k, q)]
/-- Every block but D and v's own is as it was. -/
def Fr2 (D : Nat) (v : Value) (W w' : World) : Prop := W.heap.size ≤ w'.heap.size ∧ ∀ q, q < W.heap.size → q ≠ D → v.ownBlock ≠ some q → w'.heap[q]? = W.heap[q]?
def CP (lo D : Nat) (v : Value) (its : List (Nat × Nat)) (f : Nat → Nat) (T k q : Nat) (W : World) (e : Ending) (w' : World) : Prop :=
  ∃ v', e = .returned (.tuple #[]) ∧ CK w' lo D v' (push f its k q) f T ∧ Fr2 D v W w' ∧ Below lo W w' ∧ (v' = v ∨ ∀ g, v'.ownBlock = some g → v.ownBlock = some g ∨ W.heap.size ≤ g)

theorem and_mask (z r : Nat) (hz : z ≤ 255) (hr : r < 8) : (bits .and .u8 (z : Int) ((2 : Int) ^ r % 256) != 0) = z.testBit r := by
  have h2 : (2 : Int) ^ r % 256 = ((2 ^ r : Nat) : Int) := by
    have : r = 0 ∨ r = 1 ∨ r = 2 ∨ r = 3 ∨ r = 4 ∨ r = 5 ∨ r = 6 ∨ r = 7 := by omega
    rcases this with rfl | rfl | rfl | rfl | rfl | rfl | rfl | rfl <;> rfl
  have h3 : 2 ^ r < 256 := Nat.pow_lt_pow_right (by omega) hr
  rw [h2, u8_and_nat z (2 ^ r) (by omega) h3]
  cases h : z.testBit r
  · have : z &&& 2 ^ r = 0 := by
      apply Nat.eq_of_testBit_eq
      intro i
      rw [Nat.testBit_and, Nat.testBit_two_pow, Nat.zero_testBit]
      by_cases e : r = i
      · subst e; simp [h]
      · simp [e]
    rw [this]; rfl
  · have : z &&& 2 ^ r ≠ 0 := fun e => by
      have := congrArg (fun x => x.testBit r) e
      simp [Nat.testBit_and, h, Nat.testBit_two_pow_self] at this
    simp
    exact this
theorem or_mask (z r : Nat) (hz : z ≤ 255) (hr : r < 8) : bits .or .u8 (z : Int) ((2 : Int) ^ r % 256) = ((z ||| 2 ^ r : Nat) : Int) ∧ z ||| 2 ^ r ≤ 255 := by
  have h2 : (2 : Int) ^ r % 256 = ((2 ^ r : Nat) : Int) := by
    have : r = 0 ∨ r = 1 ∨ r = 2 ∨ r = 3 ∨ r = 4 ∨ r = 5 ∨ r = 6 ∨ r = 7 := by omega
    rcases this with rfl | rfl | rfl | rfl | rfl | rfl | rfl | rfl <;> rfl
  have h3 : 2 ^ r < 256 := Nat.pow_lt_pow_right (by omega) hr
  refine ⟨by rw [h2, u8_or_nat z (2 ^ r) (by omega) h3], ?_⟩
  have := Nat.or_lt_two_pow (x := z) (y := 2 ^ r) (n := 8) (by omega) (by omega)
  omega
theorem tb_put {bs : Nat → Nat} {h h' : Nat} (ht : tb bs h' = true ∨ h' = h) : tb (fun j => if j = h % 251 / 8 then bs j ||| 2 ^ (h % 251 % 8) else bs j) h' = true := by
  unfold tb at *
  simp only
  split
  · rw [Nat.testBit_or]
    rcases ht with ht | ht
    · rw [ht]; rfl
    · subst ht; rw [Nat.testBit_two_pow_self]; simp
  · rcases ht with ht | ht
    · exact ht
    · subst ht; omega
theorem CK.shape {w : World} {lo D : Nat} {v : Value} {its : List (Nat × Nat)} {f : Nat → Nat} {T : Nat} (h : CK w lo D v its f T) : ∃ a c, v = .slice a its.length c := by
  obtain ⟨_, ⟨rfl, h0⟩ | ⟨g, cap, cur, rfl, _⟩⟩ := h.row
  · rw [h0]; exact ⟨_, _, rfl⟩
  · exact ⟨_, _, rfl⟩
theorem info216 : (Tryd.prog.info? 216).map (fun i => (i.zero, i.size, i.bytes)) = some (some (.agg #[.nilIface, .int .i32 0, .int .u32 0]), 3, 32) := by kernel_rfl
/-- The end: the new entry is laid. -/
theorem chk_end {lo D : Nat} {a : Option Addr} {c g cap : Nat} {its : List (Nat × Nat)} {f : Nat → Nat} {T k q h : Nat} {W wr V w1 : World} {cs : Array Value} {bs : Nat → Nat} (hlo : lo ≤ W.heap.size) (hD : lo ≤ D) (hne : (Value.slice a its.length c).ownBlock ≠ some D) (hh : h = f k)
    (hck : CK W lo D (.slice a its.length c) its f T) (hlt : ∀ q, (Value.slice a its.length c).ownBlock = some q → q < W.heap.size) (hnh : hit f its k = false)
    (hb : Below W.heap.size W wr) (hat : At W D 97 cs) (hbs : ∀ j, j < 32 → cs[1 + j]? = some (.int .u8 (bs j : Int))) (hle : ∀ j, bs j ≤ 255) (htb : ∀ x, x ∈ its → tb bs (f x.1) = true)
    (hV : V = wr.setCell ⟨D, 1 + h % 251 / 8, none⟩ (.int .u8 ((bs (h % 251 / 8) ||| 2 ^ (h % 251 % 8) : Nat) : Int)))
    (hown : w1.ownsRow lo 216 3 (.slice (some ⟨g, 0, none⟩) (its.length + 1) cap) (its.length + 1) (rows T f its ++ item T f (k, q)))
    (hgr : ((V.alloc (.cells (item T f (k, q)).toArray 216)).drew).grownBy w1 (Value.slice a its.length c).ownBlock)
    (hg : (Value.slice a its.length c).ownBlock = some g ∨ g = V.heap.size + 1) :
    CP lo D (.slice a its.length c) its f T k q W (.returned (.tuple #[])) (w1.setCell ⟨D, 0, none⟩ (.slice (some ⟨g, 0, none⟩) (its.length + 1) cap)) := by
  have lD := hat.lt
  have zwr := hb.size
  have zV : V.heap.size = wr.heap.size := by rw [hV]; simp [World.setCell]
  have z1 : V.heap.size + 1 ≤ w1.heap.size := by have := hgr.size; simpa using this
  have hgD : g ≠ D := by
    rintro rfl
    rcases hg with h | h
    · exact hne h
    · omega
  have K1 : ∀ x, x < W.heap.size → x ≠ D → (Value.slice a its.length c).ownBlock ≠ some x → w1.heap[x]? = W.heap[x]? := fun x hx hxD hxo => by
    rw [hgr.block x (by simp; omega) (Ne.symm hxo)]
    show (V.alloc _).heap[x]? = _
    rw [Below.heap_alloc _ _ x (by omega), hV, Below.heap_setCell _ _ _ x (by simpa using hxD), hb.block x hx]
  have A1 : At w1 D 97 (cs.setIfInBounds (1 + h % 251 / 8) (.int .u8 ((bs (h % 251 / 8) ||| 2 ^ (h % 251 % 8) : Nat) : Int))) := by
    have h0 : At V D 97 (cs.setIfInBounds (1 + h % 251 / 8) (.int .u8 ((bs (h % 251 / 8) ||| 2 ^ (h % 251 % 8) : Nat) : Int))) := by rw [hV]; exact (hat.below hb lD).set _ _
    exact (hgr.block D (by simp; omega) (Ne.symm hne)).trans ((h0.alloc _).drew)
  have hpush : push f its k q = its ++ [(k, q)] := by simp [push, hnh]
  have BL : Below lo W w1 := by
    refine ⟨?_, ?_, ?_, by omega, fun x hx => K1 x (by omega) (by omega) (fun e => ?_)⟩
    · rw [hgr.os]; show V.os = _; rw [hV]; exact hb.os
    · rw [hgr.tape]; show V.tape = _; rw [hV]; exact hb.tape
    · rw [hgr.output]; show V.output = _; rw [hV]; exact hb.output
    · obtain ⟨_, ⟨e1, _⟩ | ⟨g1, cap1, cur, e1, h1, _⟩⟩ := hck.row
      · rw [e1] at e; simp [Value.ownBlock] at e
      · rw [e1] at e; simp [Value.ownBlock] at e; omega
  refine ⟨.slice (some ⟨g, 0, none⟩) (its.length + 1) cap, rfl, ⟨hD, ⟨_, fun j => if j = h % 251 / 8 then bs j ||| 2 ^ (h % 251 % 8) else bs j, A1.set 0 _, ?_, fun j hj => ?_, fun j => ?_, fun x hx => ?_⟩, ?_, by simpa [Value.ownBlock] using hgD⟩, ⟨by simp [World.setCell]; omega, fun x hx hxD hxo => ?_⟩, BL.setCell (by simpa using hD) _, .inr (fun y hy => ?_)⟩
  · have : 0 < cs.size := by
      have := hbs 0 (by omega)
      have := (Array.getElem?_eq_some_iff.1 this).1
      omega
    simp [this]
  · have h1 := hbs j hj
    have hs := (Array.getElem?_eq_some_iff.1 h1).1
    rw [Array.getElem?_setIfInBounds_ne (by omega)]
    by_cases e : j = h % 251 / 8
    · subst e
      simp [hs]
    · rw [Array.getElem?_setIfInBounds_ne (by omega), h1]
      simp [e]
  · have := hle j
    dsimp only
    split
    · have := (or_mask (bs j) (h % 251 % 8) this (by omega)).2
      exact this
    · exact this
  · rw [hpush] at hx
    rcases List.mem_append.1 hx with hx | hx
    · exact tb_put (.inl (htb x hx))
    · simp at hx
      subst hx
      exact tb_put (.inr hh.symm)
  · rw [hpush, rows_snoc]
    simp only [List.length_append, List.length_cons, List.length_nil]
    exact ownKeep hown (fun x hx => by
      simp [Value.ownBlock] at hx
      subst hx
      exact Below.heap_setCell _ _ _ g (by simpa using hgD))
  · rw [Below.heap_setCell _ _ _ x (by simpa using hxD)]
    exact K1 x hx hxD hxo
  · simp [Value.ownBlock] at hy
    subst hy
    rcases hg with h | h
    · exact .inl h
    · exact .inr (by omega)

def LC (n : Nat) (its : List (Nat × Nat)) (f : Nat → Nat) (h : Nat) (W : World) (bx : Nat) (T q : Nat) (i : Value) (wr : World) : Prop :=
  ∃ j : Nat, j ≤ n ∧ i = .int .i64 j ∧ Hid (∀ t x, t < j → its[t]? = some x → f x.1 ≠ h) ∧ Hid (Below W.heap.size W wr) ∧ Hid (At wr bx 35 #[.iface T (.pointer (some ⟨q, 0, none⟩)), .int .i32 0])
set_option maxRecDepth 100000 in
set_option maxHeartbeats 4000000 in
theorem chk (lo D P : Nat) (v : Value) (its : List (Nat × Nat)) (f : Nat → Nat) (T k q : Nat) (W : World) (hlo : lo ≤ W.heap.size) (hf : f k ≤ 4294967295) (hn : its.length ≤ 65536) (hck : CK W lo D v its f T)
    (hH : ∀ W', Below W.heap.size W W' → Calls Tryd.prog 47 #[.agg #[.iface T (.pointer (some ⟨q, 0, none⟩)), .int .i32 0]] W' fun e w' => e = .returned (.tuple #[.int .u32 (f k : Int), .bool true]) ∧ Below W'.heap.size W' w')
    (hE : ∀ x, x ∈ its → f x.1 = f k → ∀ W', Below W.heap.size W W' → Calls Tryd.prog 55 #[.agg #[.iface T (.pointer (some ⟨x.2, 0, none⟩)), .int .i32 0], .agg #[.iface T (.pointer (some ⟨q, 0, none⟩)), .int .i32 0]] W' fun e w' => e = .returned (.tuple #[.bool false, .bool false]) ∧ Below W'.heap.size W' w') :
    Calls Tryd.prog 46 #[.pointer (some ⟨D, 0, none⟩), .pointer (some ⟨P, 0, none⟩), .agg #[.iface T (.pointer (some ⟨q, 0, none⟩)), .int .i32 0]] W (CP lo D v its f T k q W) := by
  obtain ⟨a, c, rfl⟩ := hck.shape
  obtain ⟨i0, hi0, hz0, hz1, hz2⟩ := info_parts info216
  have I0 := Lib.hid hi0
  have I1 := Lib.hid hz0
  have I2 := Lib.hid hz1
  have I3 := Lib.hid hz2
  have HH := Lib.hid hH
  have HE := Lib.hid hE
  have HC := Lib.hid hck
  obtain ⟨n, hnn⟩ : ∃ n, n = its.length := ⟨_, rfl⟩
  have HN := Lib.hid hnn
  rw [← hnn]
  rw [← hnn] at hn
  obtain ⟨h, hh⟩ : ∃ h, h = f k := ⟨_, rfl⟩
  rw [← hh] at HH hf
  have HK := Lib.hid hh
  clear hH hE hck hh hnn hi0 hz0 hz1 hz2
  have h0 : (0 : Int) ≤ (h : Int) := Int.natCast_nonneg _
  go_enter Tryd.func46, Tryd.ntmps46
  go_wp2_with fail
  refine (HH.out _ (by repeat (first | with_reducible exact Below.refl _ _ | (with_reducible refine Below.drew ?_) | (with_reducible refine Below.alloc ?_ (by simp; try omega) _) | (with_reducible refine Below.setCell ?_ (by simp; try omega) _)))).mono ?_
  rintro e W1 ⟨rfl, hb1⟩
  have ABX : At W1 W.heap.size 35 #[.iface T (.pointer (some ⟨q, 0, none⟩)), .int .i32 0] := (hb1.block _ (by simp)).trans (At.new W 35 _)
  have BW : Below W.heap.size W W1 := ((by repeat (first | with_reducible exact Below.refl _ _ | (with_reducible refine Below.drew ?_) | (with_reducible refine Below.alloc ?_ (by simp; try omega) _) | (with_reducible refine Below.setCell ?_ (by simp; try omega) _))) : Below W.heap.size W _).trans (hb1.mono (by simp))
  obtain ⟨cs, bs, hat, hv, hbs, hle, htb⟩ := HC.out.bits
  have hat1 := hat.below BW hat.lt
  have h32 : h % 251 / 8 < 32 := by omega
  obtain ⟨z, hz⟩ : ∃ z, z = bs (h % 251 / 8) := ⟨_, rfl⟩
  have hz255 : z ≤ 255 := by rw [hz]; exact hle _
  have c0 : W1.cell? ⟨D, 0, none⟩ = some (.slice a n c) := by rw [hat1.cell, HN.out]; exact hv
  have c1 : W1.cell? ⟨D, 1 + h % 251 / 8, none⟩ = some (.int .u8 (z : Int)) := by rw [hat1.cell, hz]; exact hbs _ h32
  have lD := hat1.lt
  have z0 : (0 : Int) ≤ (z : Int) := Int.natCast_nonneg _
  have HBX := Lib.hid ABX
  have HAT := Lib.hid hat
  have HZ := Lib.hid hz
  have HV := Lib.hid hv
  have HBS := Lib.hid hbs
  have HLE := Lib.hid hle
  have HTB := Lib.hid htb
  have HB1 := Lib.hid BW
  have AM := and_mask z (h % 251 % 8) hz255 (by omega)
  clear hat1 hz hv hbs hle htb BW hat hb1 ABX
  cases ht : z.testBit (h % 251 % 8)
  · rw [ht] at AM
    have NH := Lib.hid (show hit f its k = false from by
      unfold hit
      rw [List.any_eq_false]
      intro x hx e
      have e' : f x.1 = f k := by simpa using e
      have := HTB.out x hx
      rw [e', ← HK.out] at this
      unfold tb at this
      rw [← HZ.out, ht] at this
      cases this)
    clear ht
    obtain ⟨wr, hwr⟩ : ∃ w, w = W1 := ⟨_, rfl⟩
    rw [← hwr] at HBX HB1 c0 c1 lD ⊢
    clear hwr
    have f1 : wr.frozen? ⟨D, 1 + h % 251 / 8, none⟩ = false := (HAT.out.below HB1.out HAT.out.lt).frozen _
    obtain ⟨hor, hor2⟩ := or_mask z (h % 251 % 8) hz255 (by omega)
    have b0 : wr.cell? ⟨W.heap.size, 0, none⟩ = some (.iface T (.pointer (some ⟨q, 0, none⟩))) := by rw [HBX.out.cell]; rfl
    have b1 : wr.cell? ⟨W.heap.size, 1, none⟩ = some (.int .i32 0) := by rw [HBX.out.cell]; rfl
    have lb := HBX.out.lt
    have lDW : D < W.heap.size := HAT.out.lt
    have neD : ¬ W.heap.size = D := by omega
    go_wp2_with fail
    obtain ⟨V, hV⟩ : ∃ V, V = wr.setCell ⟨D, 1 + h % 251 / 8, none⟩ (.int .u8 ((z ||| 2 ^ (h % 251 % 8) : Nat) : Int)) := ⟨_, rfl⟩
    try rw [hor]
    rw [← hV]
    have zV : V.heap.size = wr.heap.size := by rw [hV]; simp [World.setCell]
    have AV : At V D 97 (cs.setIfInBounds (1 + h % 251 / 8) (.int .u8 ((z ||| 2 ^ (h % 251 % 8) : Nat) : Int))) := by rw [hV]; exact (HAT.out.below HB1.out HAT.out.lt).set _ _
    have BV : At V W.heap.size 35 #[.iface T (.pointer (some ⟨q, 0, none⟩)), .int .i32 0] := by rw [hV]; exact HBX.out.far (by simpa using neD) _
    have OV : V.ownsRow lo 216 3 (.slice a n c) n (rows T f its) := by
      have hr := HC.out.row
      rw [← HN.out] at hr
      refine ownKeep hr (fun x hx => ?_)
      have hxD : x ≠ D := fun e => HC.out.ne (by rw [← HN.out, ← e]; exact hx)
      have hxl : x < W.heap.size := by
        obtain ⟨_, ⟨e1, _⟩ | ⟨g1, cap1, cur, e1, h1, h2, _⟩⟩ := hr
        · rw [e1] at hx; simp [Value.ownBlock] at hx
        · rw [e1] at hx; simp [Value.ownBlock] at hx; rw [← hx]; exact (Array.getElem?_eq_some_iff.1 h2).1
      rw [hV, Below.heap_setCell _ _ _ x (by simpa using hxD), HB1.out.block x hxl]
    obtain ⟨g, cap, w1, hrun, hown1, hgrow, hlie, hlt2⟩ := appRun_lies (P := Tryd.prog) ((V.alloc (.cells #[.iface T (.pointer (some ⟨q, 0, none⟩)), .int .i32 0, .int .u32 (h : Int)] 216)).drew) 94 94 lo 216 i0 _ 3 32 Tryd.underlying94 I0.out I1.out I2.out I3.out rfl (by omega) (.slice a n c) n (rows T f its) ((OV.alloc _).drew) ⟨V.heap.size, 0, none⟩ 1 1 [.iface T (.pointer (some ⟨q, 0, none⟩)), .int .i32 0, .int .u32 (h : Int)] (by rfl) (World.news_of_block (cs := #[.iface T (.pointer (some ⟨q, 0, none⟩)), .int .i32 0, .int .u32 (h : Int)]) (t := 216) (fr := (0, 0)) (heap_alloc_new V _)) (by simp [Value.oneCell']) (by omega) (by unfold maxLen; omega) (by omega) (by have := HB1.out.size; simp; omega) (V.heap.size + 1) (by simp)
    have v0 : V.cell? ⟨D, 0, none⟩ = some (.slice a n c) := by rw [hV, World.cell?_setCell_other _ _ _ _ (by intro e; injection e with e1 e2 _; omega)]; exact c0
    have v1 : V.cell? ⟨W.heap.size, 0, none⟩ = some (.iface T (.pointer (some ⟨q, 0, none⟩))) := by rw [BV.cell]; rfl
    have v2 : V.cell? ⟨W.heap.size, 1, none⟩ = some (.int .i32 0) := by rw [BV.cell]; rfl
    have lDV := AV.lt
    have lbV := BV.lt
    have hneo : (Value.slice a n c).ownBlock ≠ some D := by rw [HN.out]; exact HC.out.ne
    have AW1 : At w1 D 97 (cs.setIfInBounds (1 + h % 251 / 8) (.int .u8 ((z ||| 2 ^ (h % 251 % 8) : Nat) : Int))) := (hgrow.block D (by simp; omega) (Ne.symm hneo)).trans ((AV.alloc _).drew)
    have w0 : w1.cell? ⟨D, 0, none⟩ = some (.slice a n c) := (World.cell?_of_block (a := ⟨D, 0, none⟩) (hgrow.block D (by simp; omega) (Ne.symm hneo))).trans (show ((V.alloc _).drew).cell? ⟨D, 0, none⟩ = _ from kDrew (kAlloc v0))
    have wf := AW1.frozen 0
    have lw := AW1.lt
    have END := Lib.hid (chk_end (c := c) (cap := cap) (q := q) (V := V) (w1 := w1) (wr := wr) (g := g) hlo HC.out.low HC.out.ne HK.out (by have := HC.out; exact this) (fun x hx => by
        obtain ⟨_, ⟨e1, _⟩ | ⟨g1, cap1, cur, e1, h1, h2, _⟩⟩ := HC.out.row
        · rw [e1] at hx; simp [Value.ownBlock] at hx
        · rw [e1] at hx; simp [Value.ownBlock] at hx; rw [← hx]; exact (Array.getElem?_eq_some_iff.1 h2).1) NH.out HB1.out HAT.out HBS.out HLE.out HTB.out (by rw [hV, HZ.out]) (by rw [← HN.out]; rw [HK.out] at hown1; exact hown1) (by rw [← HN.out]; rw [HK.out] at hgrow; exact hgrow) (by rw [← HN.out]; exact hlie))
    rw [← HN.out] at END
    clear hown1 hgrow hlie AW1 AV BV OV hV zV hneo f1 c0 c1 b0 b1
    go_region
    go_wp2_with fail
    go_end0
    exact END.out
  · rw [ht] at AM
    clear ht
    go_wp2_with fail
    go_loopw [51] (fun i wr => LC n its f h W W.heap.size T q i wr) (fun i _ => n - (intOf i).toNat)
    case atStart => exact ⟨0, by omega, rfl, Lib.hid (fun t x ht _ => absurd ht (by omega)), HB1, HBX⟩
    case round =>
      obtain ⟨j, hj, rfl, HNE, HBw, HBXw⟩ := hrel
      clear AM c0 c1 lD
      by_cases hlt : j < n
      · obtain ⟨x, hx⟩ : ∃ x, its[j]? = some x := ⟨_, List.getElem?_eq_getElem (by rw [← HN.out]; exact hlt)⟩
        have hrow : ∃ g, a = some ⟨g, 0, none⟩ ∧ g < W.heap.size ∧ ∀ t, t < 3 → W.cell? ⟨g, j * 3 + t, none⟩ = (item T f x)[t]? := by
          have hr := HC.out.row
          obtain ⟨hl, ⟨e1, e2⟩ | ⟨g, cap, cur, e1, h1, h2, h3⟩⟩ := id hr
          · exact absurd e2 (by rw [← HN.out]; omega)
          · simp only [Value.slice.injEq] at e1
            obtain ⟨rfl, _, rfl⟩ := e1
            refine ⟨g, rfl, (Array.getElem?_eq_some_iff.1 h2).1, fun t ht => ?_⟩
            rw [World.ownsRow.cellAt hr (j * 3 + t) (by rw [← HN.out]; omega)]
            exact rows_get T f its j t x hx ht
        obtain ⟨g, rfl, lg, hcg⟩ := hrow
        have g0 : wr.cell? ⟨g, j * 3, none⟩ = some (.iface T (.pointer (some ⟨x.2, 0, none⟩))) := kept HBw.out (by have := hcg 0 (by omega); simpa [item] using this)
        have g1 : wr.cell? ⟨g, j * 3 + 1, none⟩ = some (.int .i32 0) := kept HBw.out (by have := hcg 1 (by omega); simpa [item] using this)
        have g2 : wr.cell? ⟨g, j * 3 + 2, none⟩ = some (.int .u32 (f x.1 : Int)) := kept HBw.out (by have := hcg 2 (by omega); simpa [item] using this)
        have lgr := World.block_lt_of_cell? _ _ g0
        have HX := Lib.hid hx
        obtain ⟨y, hy⟩ : ∃ y, y = f x.1 := ⟨_, rfl⟩
        rw [← hy] at g2
        have HY := Lib.hid hy
        clear hcg hx hy
        have b0 : wr.cell? ⟨W.heap.size, 0, none⟩ = some (.iface T (.pointer (some ⟨q, 0, none⟩))) := by rw [HBXw.out.cell]; rfl
        have b1 : wr.cell? ⟨W.heap.size, 1, none⟩ = some (.int .i32 0) := by rw [HBXw.out.cell]; rfl
        have lb := HBXw.out.lt
        by_cases hyh : y = h
        · have e1 : ((y : Int) == (h : Int)) = true := by simp [hyh]
          have HEX := Lib.hid (HE.out x (List.mem_of_getElem? HX.out) (by rw [← HY.out, hyh, HK.out]))
          have HIT := Lib.hid (show hit f its k = true from by
            unfold hit
            rw [List.any_eq_true]
            exact ⟨x, List.mem_of_getElem? HX.out, by rw [← HY.out, hyh, HK.out]; simp⟩)
          clear hyh
          go_wp2_with fail
          refine (HEX.out _ (HBw.out.alloc HBw.out.size _)).mono ?_
          rintro e w2 ⟨rfl, hb2⟩
          have B2 := Lib.hid (show Below W.heap.size W w2 from (HBw.out.alloc HBw.out.size _).trans (hb2.mono (by have := HBw.out.size; simp; omega)))
          clear hb2
          go_wp2_with fail
          go_end0
          refine ⟨_, rfl, ?_, ⟨B2.out.size, fun x hx _ _ => B2.out.block x hx⟩, B2.out.mono hlo, .inl rfl⟩
          rw [show push f its k q = its from by simp [push, HIT.out], HN.out]
          have hc := HC.out
          obtain ⟨cs', bs', h1, h2⟩ := hc.bits
          exact ⟨hc.low, ⟨cs', bs', h1.below B2.out h1.lt, h2⟩, ownKeep hc.row (fun x hx => B2.out.block x (by
            obtain ⟨_, ⟨e1, _⟩ | ⟨g1, cap1, cur, e1, h1, h2, _⟩⟩ := hc.row
            · rw [e1] at hx; simp [Value.ownBlock] at hx
            · rw [e1] at hx; simp [Value.ownBlock] at hx; rw [← hx]; exact (Array.getElem?_eq_some_iff.1 h2).1)), hc.ne⟩
        · have e1 : ((y : Int) == (h : Int)) = false := by simp; omega
          have N1 := Lib.hid (show ∀ t x', t < j + 1 → its[t]? = some x' → f x'.1 ≠ h from fun t x' ht hx' => by
            by_cases e : t = j
            · subst e
              rw [HX.out] at hx'
              cases hx'
              rw [← HY.out]; exact hyh
            · exact HNE.out t x' (by omega) hx')
          clear hyh
          go_wp2_with fail
          go_roundw
          case rel => exact ⟨j + 1, by omega, by go_num, N1, Lib.hid (HBw.out.alloc HBw.out.size _), Lib.hid (HBXw.out.alloc _)⟩
          case measure => simp [intOf]; omega
      · have ej : j = n := by omega
        subst ej
        have NH := Lib.hid (show hit f its k = false from by
          unfold hit
          rw [List.any_eq_false]
          intro x hx e
          have e' : f x.1 = f k := by simpa using e
          obtain ⟨t, ht, rfl⟩ := List.getElem_of_mem hx
          exact HNE.out t _ (by rw [HN.out]; exact ht) (List.getElem?_eq_getElem ht) (by rw [e', HK.out]))
        have HB1 := HBw
        have HBX := HBXw
        clear HNE hlt
        have hatw := HAT.out.below HBw.out HAT.out.lt
        have c0 : wr.cell? ⟨D, 0, none⟩ = some (.slice a j c) := by rw [hatw.cell, HN.out]; exact HV.out
        have c1 : wr.cell? ⟨D, 1 + h % 251 / 8, none⟩ = some (.int .u8 (z : Int)) := by rw [hatw.cell, HZ.out]; exact HBS.out _ h32
        have lD := hatw.lt
        clear hatw
        have f1 : wr.frozen? ⟨D, 1 + h % 251 / 8, none⟩ = false := (HAT.out.below HB1.out HAT.out.lt).frozen _
        obtain ⟨hor, hor2⟩ := or_mask z (h % 251 % 8) hz255 (by omega)
        have b0 : wr.cell? ⟨W.heap.size, 0, none⟩ = some (.iface T (.pointer (some ⟨q, 0, none⟩))) := by rw [HBX.out.cell]; rfl
        have b1 : wr.cell? ⟨W.heap.size, 1, none⟩ = some (.int .i32 0) := by rw [HBX.out.cell]; rfl
        have lb := HBX.out.lt
        have lDW : D < W.heap.size := HAT.out.lt
        have neD : ¬ W.heap.size = D := by omega
        go_wp2_with fail
        obtain ⟨V, hV⟩ : ∃ V, V = wr.setCell ⟨D, 1 + h % 251 / 8, none⟩ (.int .u8 ((z ||| 2 ^ (h % 251 % 8) : Nat) : Int)) := ⟨_, rfl⟩
        try rw [hor]
        rw [← hV]
        have zV : V.heap.size = wr.heap.size := by rw [hV]; simp [World.setCell]
        have AV : At V D 97 (cs.setIfInBounds (1 + h % 251 / 8) (.int .u8 ((z ||| 2 ^ (h % 251 % 8) : Nat) : Int))) := by rw [hV]; exact (HAT.out.below HB1.out HAT.out.lt).set _ _
        have BV : At V W.heap.size 35 #[.iface T (.pointer (some ⟨q, 0, none⟩)), .int .i32 0] := by rw [hV]; exact HBX.out.far (by simpa using neD) _
        have OV : V.ownsRow lo 216 3 (.slice a j c) j (rows T f its) := by
          have hr := HC.out.row
          rw [← HN.out] at hr
          refine ownKeep hr (fun x hx => ?_)
          have hxD : x ≠ D := fun e => HC.out.ne (by rw [← HN.out, ← e]; exact hx)
          have hxl : x < W.heap.size := by
            obtain ⟨_, ⟨e1, _⟩ | ⟨g1, cap1, cur, e1, h1, h2, _⟩⟩ := hr
            · rw [e1] at hx; simp [Value.ownBlock] at hx
            · rw [e1] at hx; simp [Value.ownBlock] at hx; rw [← hx]; exact (Array.getElem?_eq_some_iff.1 h2).1
          rw [hV, Below.heap_setCell _ _ _ x (by simpa using hxD), HB1.out.block x hxl]
        obtain ⟨g, cap, w1, hrun, hown1, hgrow, hlie, hlt2⟩ := appRun_lies (P := Tryd.prog) ((V.alloc (.cells #[.iface T (.pointer (some ⟨q, 0, none⟩)), .int .i32 0, .int .u32 (h : Int)] 216)).drew) 94 94 lo 216 i0 _ 3 32 Tryd.underlying94 I0.out I1.out I2.out I3.out rfl (by omega) (.slice a j c) j (rows T f its) ((OV.alloc _).drew) ⟨V.heap.size, 0, none⟩ 1 1 [.iface T (.pointer (some ⟨q, 0, none⟩)), .int .i32 0, .int .u32 (h : Int)] (by rfl) (World.news_of_block (cs := #[.iface T (.pointer (some ⟨q, 0, none⟩)), .int .i32 0, .int .u32 (h : Int)]) (t := 216) (fr := (0, 0)) (heap_alloc_new V _)) (by simp [Value.oneCell']) (by omega) (by unfold maxLen; omega) (by omega) (by have := HB1.out.size; simp; omega) (V.heap.size + 1) (by simp)
        have v0 : V.cell? ⟨D, 0, none⟩ = some (.slice a j c) := by rw [hV, World.cell?_setCell_other _ _ _ _ (by intro e; injection e with e1 e2 _; omega)]; exact c0
        have v1 : V.cell? ⟨W.heap.size, 0, none⟩ = some (.iface T (.pointer (some ⟨q, 0, none⟩))) := by rw [BV.cell]; rfl
        have v2 : V.cell? ⟨W.heap.size, 1, none⟩ = some (.int .i32 0) := by rw [BV.cell]; rfl
        have lDV := AV.lt
        have lbV := BV.lt
        have hneo : (Value.slice a j c).ownBlock ≠ some D := by rw [HN.out]; exact HC.out.ne
        have AW1 : At w1 D 97 (cs.setIfInBounds (1 + h % 251 / 8) (.int .u8 ((z ||| 2 ^ (h % 251 % 8) : Nat) : Int))) := (hgrow.block D (by simp; omega) (Ne.symm hneo)).trans ((AV.alloc _).drew)
        have w0 : w1.cell? ⟨D, 0, none⟩ = some (.slice a j c) := (World.cell?_of_block (a := ⟨D, 0, none⟩) (hgrow.block D (by simp; omega) (Ne.symm hneo))).trans (show ((V.alloc _).drew).cell? ⟨D, 0, none⟩ = _ from kDrew (kAlloc v0))
        have wf := AW1.frozen 0
        have lw := AW1.lt
        have END := Lib.hid (chk_end (c := c) (cap := cap) (q := q) (V := V) (w1 := w1) (wr := wr) (g := g) hlo HC.out.low HC.out.ne HK.out (by have := HC.out; exact this) (fun x hx => by
            obtain ⟨_, ⟨e1, _⟩ | ⟨g1, cap1, cur, e1, h1, h2, _⟩⟩ := HC.out.row
            · rw [e1] at hx; simp [Value.ownBlock] at hx
            · rw [e1] at hx; simp [Value.ownBlock] at hx; rw [← hx]; exact (Array.getElem?_eq_some_iff.1 h2).1) NH.out HB1.out HAT.out HBS.out HLE.out HTB.out (by rw [hV, HZ.out]) (by rw [← HN.out]; rw [HK.out] at hown1; exact hown1) (by rw [← HN.out]; rw [HK.out] at hgrow; exact hgrow) (by rw [← HN.out]; exact hlie))
        rw [← HN.out] at END
        clear hown1 hgrow hlie AW1 AV BV OV hV zV hneo f1 c0 c1 b0 b1
        go_region
        go_wp2_with fail
        go_end0
        exact END.out
end Go.Proofs.YtjlmaingeobgeaaDoor
