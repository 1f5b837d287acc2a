/- Proved here: the contracts of StringToUTF16, zzUTF16, zzEqU16. Conditions as stated. -/
import Derived.Test.YtlbkdflbhhbibaaDoorUPB
import Derived.WalkKit
import Derived.WalkSpells
import Derived.WalkLawsBesides
import Derived.Lib.Hide
import Derived.Lib.SliceRun
import Derived.Deep.RegionWith
import Derived.OwnWalk
import Derived.Laws.OwnMore
import Derived.BigRegion
import Derived.BigQuiet
import Derived.Deep.QuietTactic
import Derived.Laws.RangeAny
import Derived.Lib.OthersKept
namespace Go.Proofs.YtlbkdflbhhbibaaDoor
open Go.RowKit Go.Lib
set_option linter.unusedSimpArgs false
set_option linter.unusedVariables false

theorem info209 : (Tryd.prog.info? 209).map (fun i => (i.zero, i.size, i.bytes)) = some (some (.int .u16 0), 1, 2) := by kernel_rfl
def Own (w : World) (B : Nat) (v : Value) (out : List Int) : Prop := w.ownsRow B 209 1 v out.length (out.map (Value.int .u16))
theorem Own.shape {w : World} {B : Nat} {v : Value} {out : List Int} (h : Own w B v out) : ∃ a c, v = .slice a out.length c := by
  obtain ⟨_, ⟨rfl, h⟩ | ⟨g, cap, cur, rfl, _⟩⟩ := h
  · rw [h]; exact ⟨_, _, rfl⟩
  · exact ⟨_, _, rfl⟩
theorem Own.row {w : World} {B : Nat} {v : Value} {out : List Int} (h : Own w B v out) : w.ownsRow B 209 1 v out.length (out.map (Value.int .u16)) := h
theorem Own.alloc {w : World} {B : Nat} {v : Value} {out : List Int} (h : Own w B v out) (o : Obj) : Own (w.alloc o) B v out := World.ownsRow.alloc h o
theorem Own.ne {w : World} {B k pos : Nat} {v : Value} {out : List Int} {s : ByteArray} (h : Own w B v out) (hk : w.heap[k]? = some (.stringIter s pos)) : v.ownBlock ≠ some k := by
  intro e
  obtain ⟨_, ⟨rfl, _⟩ | ⟨g, cap, cur, rfl, _, hg, _⟩⟩ := h
  · cases e
  · simp only [Value.ownBlock, Option.some.injEq] at e
    subst e
    rw [hg] at hk
    cases hk
theorem Own.iterAt {w : World} {B k pos : Nat} {v : Value} {out : List Int} {s : ByteArray} (h : Own w B v out) (hk : w.heap[k]? = some (.stringIter s pos)) (p : Nat) : Own (w.iterAt k s p) B v out := by
  have hne := h.ne hk
  refine World.ownsRow.kept (row := some k) h ⟨rfl, rfl, rfl, by rw [Lib.iterAt_size]; exact Nat.le_refl _, fun j _ hj => Lib.iterAt_other w k j s p (fun e => hj (by rw [e]))⟩ (.inr hne)
theorem Own.below {w w' : World} {B : Nat} {v : Value} {out : List Int} (h : Own w B v out) (hb : Below w.heap.size w w') : Own w' B v out :=
  World.ownsRow.kept (row := none) h ⟨hb.os, hb.tape, hb.output, hb.size, fun k hk _ => hb.block k hk⟩ (by cases hv : v.ownBlock with | none => exact .inl rfl | some k => exact .inr (by simp))
theorem Own.base {w : World} {B : Nat} {v : Value} {out : List Int} (h : Own w B v out) : ∀ k, v.ownBlock = some k → B ≤ k := fun k hk => (World.ownsRow.lt h k hk).1
theorem Own.snoc {w : World} {B : Nat} {v : Value} {out : List Int} {c1 : Int} (h : w.ownsRow B 209 1 v (out.length + 1) (out.map (Value.int .u16) ++ [.int .u16 c1])) : Own w B v (out ++ [c1]) := by
  unfold Own; simpa using h
theorem Own.snoc2 {w : World} {B : Nat} {v : Value} {out : List Int} {c1 c2 : Int} (h : w.ownsRow B 209 1 v (out.length + 2) (out.map (Value.int .u16) ++ [.int .u16 c1, .int .u16 c2])) : Own w B v (out ++ [c1, c2]) := by
  unfold Own; simpa using h
theorem iter_grown {w w' : World} {k pos : Nat} {s : ByteArray} {v : Value} (hk : w.heap[k]? = some (.stringIter s pos)) (hg : w.grownBy w' v.ownBlock) (hne : v.ownBlock ≠ some k) : w'.heap[k]? = some (.stringIter s pos) := by
  rw [hg.block k (Array.getElem?_eq_some_iff.1 hk).1 (fun e => hne e.symm)]; exact hk
theorem iter_alloc {w : World} {k pos : Nat} {s : ByteArray} (hk : w.heap[k]? = some (.stringIter s pos)) (o : Obj) : (w.alloc o).heap[k]? = some (.stringIter s pos) := by
  rw [Below.heap_alloc w o k (Array.getElem?_eq_some_iff.1 hk).1]; exact hk
theorem iterPos_of {w : World} {k pos : Nat} {s : ByteArray} (hk : w.heap[k]? = some (.stringIter s pos)) : w.iterPos k = pos := by simp [World.iterPos, hk]
theorem l10 (x : Int) (h0 : 65536 ≤ x) (h1 : x ≤ 1114111) : bits .and .i64 (x - 65536) 1023 = (x - 65536) % 1024 := by
  have := bits_mask .i64 63 (by decide) wraps_i64 10 (by decide) (x - 65536) (by omega) (by omega)
  rw [show ((2 : Int) ^ 10 - 1) = 1023 from rfl] at this
  rw [this]; omega
def UR (s : ByteArray) (w : World) (it : Nat) (v : Value) (wr : World) : Prop :=
  ∃ (pos : Nat) (out : List Int), UT s pos out ∧ wr.heap[it]? = some (.stringIter s pos) ∧ Own wr w.heap.size v out ∧ Below w.heap.size w wr
/-- What both conversions hand back. -/
def U16 (s : ByteArray) (w : World) (e : Ending) (w' : World) : Prop := ∃ v, e = .returned v ∧ Own w' w.heap.size v (rest s 0) ∧ Below w.heap.size w w'
theorem n10 (x : Int) (h0 : 65536 ≤ x) (h1 : x ≤ 1114111) : bits .and .i32 ((x - 65536) / 1024) 1023 = (x - 65536) / 1024 := by
  have := bits_mask .i32 31 (by decide) wraps_i32 10 (by decide) ((x - 65536) / 1024) (by omega) (by omega)
  rw [show ((2 : Int) ^ 10 - 1) = 1023 from rfl] at this
  rw [this]; omega
theorem n10' (x : Int) (h0 : 65536 ≤ x) (h1 : x ≤ 1114111) : bits .and .i32 (x - 65536) 1023 = (x - 65536) % 1024 := by
  have := bits_mask .i32 31 (by decide) wraps_i32 10 (by decide) (x - 65536) (by omega) (by omega)
  rw [show ((2 : Int) ^ 10 - 1) = 1023 from rfl] at this
  rw [this]; omega

set_option maxRecDepth 100000 in
set_option maxHeartbeats 8000000 in
theorem s16 (s : ByteArray) (w : World) (hs : s.size ≤ 1048576) : Calls Tryd.prog 25 #[.string s] w (U16 s w) := by
  obtain ⟨i0, hi, hz0, hz1, hz2⟩ := info_parts info209
  have HI := Lib.hid hi
  have HI0 := Lib.hid hz0
  have HI1 := Lib.hid hz1
  have HI2 := Lib.hid hz2
  clear hi hz0 hz1 hz2
  go_enter Tryd.func25, Tryd.ntmps25
  go_wp2_with (with_reducible refine wpList_make_own _ (o := ⟨some 8, _, _, _, _, _⟩) rfl _ _ 62 rfl w.heap.size 209 i0 _ 1 Tryd.underlying62 HI.out HI0.out HI1.out .i64 .i64 _ s.size rfl rfl ?e1 ?e2 ?e3 (Nat.le_refl _) ?_)
  case e1 => rfl
  case e2 => rw [HI2.out]; omega
  case e3 => unfold maxLen; omega
  intro w1 hown hgr
  have HO := Lib.hid hown
  have HB1 := Lib.hid (show Below w.heap.size w w1 from Below.grown (Below.refl _ _) hgr (Nat.le_refl _) (fun k hk => by cases hk))
  have zg := (World.ownsRow.lt hown w.heap.size rfl).2
  clear hown hgr
  go_wp2_with fail
  go_loopw [3] (fun v wr => UR s w w1.heap.size v wr) (fun _ wr => s.size - wr.iterPos w1.heap.size)
  case atStart =>
    refine ⟨0, [], UT.start s, ?_, ?_, ?_⟩
    · have := World.iter_heap w1 s 0
      simpa using this
    · exact World.ownsRow.alloc HO.out _
    · exact HB1.out.alloc HB1.out.size _
  case round =>
    obtain ⟨pos, out, hut, hk, hown, hb⟩ := hrel
    have hzb := hb.size
    by_cases hp : pos < s.size
    · have hd := dec_wd s pos hp
      have HUT := Lib.hid (hut.step hp)
      have ho2 := hut.2.2
      obtain ⟨r, hr⟩ : ∃ r, r = (Utf8.decode s pos).1 := ⟨_, rfl⟩
      obtain ⟨p, hpp⟩ : ∃ p, p = pos + (Utf8.decode s pos).2 := ⟨_, rfl⟩
      rw [← hr, ← hpp] at HUT
      have p0 : pos < p := by omega
      have p1 : p ≤ s.size := by omega
      have r1 : r ≤ 1114111 := by omega
      obtain ⟨a, c, rfl⟩ := hown.shape
      have hnext : ∀ ty, (Instr.next (.pointer (some ⟨w1.heap.size, 0, none⟩)) true ty).run Tryd.prog wr = .ok (.tuple #[.bool true, .int .i64 pos, .int .i32 r]) (wr.iterAt w1.heap.size s p) := fun ty => by
        rw [Lib.run_next_any_at wr w1.heap.size s pos ty hk hp, hr, hpp]
      have OWN := Lib.hid (hown.iterAt hk p)
      have IT := Lib.hid (Lib.iterAt_heap wr w1.heap.size s pos p hk)
      have WB := Lib.hid (Lib.below_iterAt hb (show w.heap.size ≤ w1.heap.size by omega) s p)
      have MU := Lib.hid (iterPos_of hk)
      clear hr hpp hk hown hb hut hd HO HB1
      obtain ⟨W, hW⟩ : ∃ W, W = wr.iterAt w1.heap.size s p := ⟨_, rfl⟩
      rw [← hW] at OWN IT WB
      simp only [← hW] at hnext
      clear hW
      have zW := WB.out.size
      have r0 : (0 : Int) ≤ (r : Int) := Int.natCast_nonneg _
      by_cases hr : r < 65536
      · have hr1 : (r : Int) ≤ 65535 := by omega
        rw [enc_low hr] at HUT
        go_wp2_with (with_reducible refine wpList_append_own _ (o := ⟨some 20, _, _, _, _, _⟩) rfl _ _ 62 rfl w.heap.size 209 i0 (.int .u16 0) 1 2 Tryd.underlying62 HI.out HI0.out HI1.out HI2.out rfl (by decide) _ _ _ rfl (OWN.out.alloc _).row ⟨W.heap.size, 0, none⟩ 1 1 [.int .u16 (r : Int)] rfl rfl ?c1 ?c2 ?c3 ?c4 ?c5 ?_)
        case c1 =>
          intro j u hj
          have hj0 : j = 0 := by rcases j with _ | j <;> simp at hj ⊢
          subst hj0
          simp at hj
          subst hj
          simp [Addr.add_lit, World.cell?_alloc_new]
        case c2 => simp [Value.oneCell']
        case c3 => unfold maxLen; (try simp); omega
        case c4 => (try simp); omega
        case c5 => (try simp); omega
        intro v1 W1 hown1 hgr1 _
        have OWN1 := Lib.hid (Own.snoc hown1)
        have IT1 := Lib.hid (iter_grown (iter_alloc IT.out _) hgr1 (OWN.out.ne IT.out))
        have WB1 := Lib.hid (Below.grown (WB.out.alloc WB.out.size _) hgr1 (by (try simp); omega) (OWN.out.base))
        clear hown1 hgr1
        go_wp2_with fail
        go_roundw
        case rel => exact ⟨p, _, HUT.out, IT1.out, OWN1.out, WB1.out⟩
        case measure => rw [MU.out, iterPos_of IT1.out]; omega
      · have hr1 : ¬ (r : Int) ≤ 65535 := by omega
        have hr2 : (65536 : Int) ≤ (r : Int) := by omega
        have hr3 : (r : Int) ≤ 1114111 := by omega
        have m1 := n10 (r : Int) hr2 hr3
        have m2 := n10' (r : Int) hr2 hr3
        rw [enc_high hr] at HUT
        go_wp2_with (with_reducible refine wpList_append_own _ (o := ⟨some 34, _, _, _, _, _⟩) rfl _ _ 62 rfl w.heap.size 209 i0 (.int .u16 0) 1 2 Tryd.underlying62 HI.out HI0.out HI1.out HI2.out rfl (by decide) _ _ _ rfl (OWN.out.alloc _).row ⟨W.heap.size, 0, none⟩ 2 2 [.int .u16 (55296 + ((r : Int) - 65536) / 1024), .int .u16 (56320 + ((r : Int) - 65536) % 1024)] rfl rfl ?c1 ?c2 ?c3 ?c4 ?c5 ?_)
        case c2 => simp [Value.oneCell']
        case c3 => unfold maxLen; (try simp); omega
        case c4 => (try simp); omega
        case c5 => (try simp); omega
        intro v1 W1 hown1 hgr1 _
        have OWN1 := Lib.hid (Own.snoc2 hown1)
        have IT1 := Lib.hid (iter_grown (iter_alloc IT.out _) hgr1 (OWN.out.ne IT.out))
        have WB1 := Lib.hid (Below.grown (WB.out.alloc WB.out.size _) hgr1 (by (try simp); omega) (OWN.out.base))
        have E1 := Lib.hid (show (55296 + (((r - 65536) / 1024 : Nat) : Int)) = 55296 + ((r : Int) - 65536) / 1024 by omega)
        have E2 := Lib.hid (show (56320 + (((r - 65536) % 1024 : Nat) : Int)) = 56320 + ((r : Int) - 65536) % 1024 by omega)
        rw [E1.out, E2.out] at HUT
        clear hown1 hgr1
        go_wp2_with fail
        go_roundw
        case rel => exact ⟨p, _, HUT.out, IT1.out, OWN1.out, WB1.out⟩
        case measure => rw [MU.out, iterPos_of IT1.out]; omega
    · have hnext : ∀ ty, (Instr.next (.pointer (some ⟨w1.heap.size, 0, none⟩)) true ty).run Tryd.prog wr = .ok (.tuple #[.bool false]) wr := fun ty => Lib.run_next_end_at wr w1.heap.size s pos ty hk hp
      obtain ⟨a, c, rfl⟩ := hown.shape
      have HE := Lib.hid (show U16 s w (.returned (.slice a out.length c)) wr from ⟨_, rfl, by rw [← hut.end hp]; exact hown, hb⟩)
      clear hut hown hb
      go_wp2_with fail
      go_ret
      exact HE.out

def ZR (s : ByteArray) (w : World) (v i : Value) (wr : World) : Prop :=
  ∃ (pos : Nat) (out : List Int), i = .int .i64 pos ∧ UT s pos out ∧ Own wr w.heap.size v out ∧ Below w.heap.size w wr
set_option maxRecDepth 100000 in
set_option maxHeartbeats 8000000 in
theorem z16 (s : ByteArray) (w : World) (hs : s.size ≤ 1048576) : Calls Tryd.prog 16 #[.string s] w (U16 s w) := by
  obtain ⟨i0, hi, hz0, hz1, hz2⟩ := info_parts info209
  have HI := Lib.hid hi
  have HI0 := Lib.hid hz0
  have HI1 := Lib.hid hz1
  have HI2 := Lib.hid hz2
  clear hi hz0 hz1 hz2
  go_enter Tryd.func16, Tryd.ntmps16
  go_wp2_with (with_reducible refine wpList_make_own _ (o := ⟨some 9, _, _, _, _, _⟩) rfl _ _ 62 rfl w.heap.size 209 i0 _ 1 Tryd.underlying62 HI.out HI0.out HI1.out .i64 .i64 _ s.size rfl rfl ?e1 ?e2 ?e3 (Nat.le_refl _) ?_)
  case e1 => rfl
  case e2 => rw [HI2.out]; omega
  case e3 => unfold maxLen; omega
  intro w1 hown hgr
  have HO := Lib.hid hown
  have HB1 := Lib.hid (show Below w.heap.size w w1 from Below.grown (Below.refl _ _) hgr (Nat.le_refl _) (fun k hk => by cases hk))
  clear hown hgr
  go_wp2_with fail
  go_loopw [3, 4] (fun v i wr => ZR s w v i wr) (fun _ i _ => s.size - (intOf i).toNat)
  case atStart => exact ⟨0, [], rfl, UT.start s, HO.out, HB1.out⟩
  case round =>
    obtain ⟨pos, out, rfl, hut, hown, hb⟩ := hrel
    have hzb := hb.size
    obtain ⟨a, c, rfl⟩ := hown.shape
    by_cases hp : pos < s.size
    · have hd := dec_wd s pos hp
      have HUT := Lib.hid (hut.step hp)
      have ho2 := hut.2.2
      have HD := Lib.hid (zdec s pos wr hs hp)
      unfold DcP at HD
      obtain ⟨r, hr⟩ : ∃ r, r = (Utf8.decode s pos).1 := ⟨_, rfl⟩
      obtain ⟨d, hdd⟩ : ∃ p, p = (Utf8.decode s pos).2 := ⟨_, rfl⟩
      rw [← hr, ← hdd] at HUT HD
      have d0 : 1 ≤ d := by omega
      have d1 : pos + d ≤ s.size := by omega
      have r1 : r ≤ 1114111 := by omega
      have r0 : (0 : Int) ≤ (r : Int) := Int.natCast_nonneg _
      have hp1 : (pos : Int) < (s.size : Int) := by omega
      have HOW := Lib.hid hown
      have HBB := Lib.hid hb
      clear hr hdd hut hd HO HB1 hown hb
      go_wp2_with fail
      refine HD.out.mono ?_
      rintro e w2 ⟨rfl, q, rfl⟩
      obtain ⟨W, hW⟩ : ∃ W, W = wr.drewN q := ⟨_, rfl⟩
      have OWN := Lib.hid (show Own W w.heap.size (.slice a out.length c) out from by rw [hW]; exact HOW.out.below ⟨rfl, rfl, rfl, Nat.le_refl _, fun _ _ => rfl⟩)
      have WB := Lib.hid (show Below w.heap.size w W from by rw [hW]; exact below_drewN HBB.out _)
      rw [← hW]
      clear hW HOW HBB HD
      have zW := WB.out.size
      obtain ⟨p, hpp⟩ : ∃ p, p = pos + d := ⟨_, rfl⟩
      rw [← hpp] at HUT
      have p0 : pos < p := by omega
      have p1 : p ≤ s.size := by omega
      have p2 : (p : Int) = (pos : Int) + (d : Int) := by omega
      by_cases hr : r < 65536
      · have hr1 : (r : Int) < 65536 := by omega
        rw [enc_low hr] at HUT
        go_wp2_with (with_reducible refine wpList_append_own _ (o := ⟨some 29, _, _, _, _, _⟩) rfl _ _ 62 rfl w.heap.size 209 i0 (.int .u16 0) 1 2 Tryd.underlying62 HI.out HI0.out HI1.out HI2.out rfl (by decide) _ _ _ rfl (OWN.out.alloc _).row ⟨W.heap.size, 0, none⟩ 1 1 [.int .u16 (r : Int)] rfl rfl ?c1 ?c2 ?c3 ?c4 ?c5 ?_)
        case c1 =>
          intro j u hj
          have hj0 : j = 0 := by rcases j with _ | j <;> simp at hj ⊢
          subst hj0
          simp at hj
          subst hj
          simp [Addr.add_lit, World.cell?_alloc_new]
        case c2 => simp [Value.oneCell']
        case c3 => unfold maxLen; (try simp); omega
        case c4 => (try simp); omega
        case c5 => (try simp); omega
        intro v1 W1 hown1 hgr1 _
        have OWN1 := Lib.hid (Own.snoc hown1)
        have WB1 := Lib.hid (Below.grown (WB.out.alloc WB.out.size _) hgr1 (by (try simp); omega) (OWN.out.base))
        clear hown1 hgr1
        go_wp2_with fail
        go_roundw
        case rel => exact ⟨p, _, by go_num, HUT.out, OWN1.out, WB1.out⟩
        case measure => simp [intOf]; omega
      · have hr1 : ¬ (r : Int) < 65536 := by omega
        have hr2 : (65536 : Int) ≤ (r : Int) := by omega
        have hr3 : (r : Int) ≤ 1114111 := by omega
        have m2 := l10 (r : Int) hr2 hr3
        rw [enc_high hr] at HUT
        have E1 : (55296 + (((r - 65536) / 1024 : Nat) : Int)) = 55296 + ((r : Int) - 65536) / 1024 := by omega
        have E2 : (56320 + (((r - 65536) % 1024 : Nat) : Int)) = 56320 + ((r : Int) - 65536) % 1024 := by omega
        rw [E1, E2] at HUT
        clear E1 E2 hr r1
        generalize (r : Int) = x at *
        go_wp2_with (with_reducible refine wpList_append_own _ (o := ⟨some 38, _, _, _, _, _⟩) rfl _ _ 62 rfl w.heap.size 209 i0 (.int .u16 0) 1 2 Tryd.underlying62 HI.out HI0.out HI1.out HI2.out rfl (by decide) _ _ _ rfl (OWN.out.alloc _).row ⟨W.heap.size, 0, none⟩ 1 1 [.int .u16 (55296 + (x - 65536) / 1024)] rfl rfl ?c1 ?c2 ?c3 ?c4 ?c5 ?_)
        case c1 =>
          intro j u hj
          have hj0 : j = 0 := by rcases j with _ | j <;> simp at hj ⊢
          subst hj0
          simp at hj
          subst hj
          simp [Addr.add_lit, World.cell?_alloc_new]
        case c2 => simp [Value.oneCell']
        case c3 => unfold maxLen; (try simp); omega
        case c4 => (try simp); omega
        case c5 => (try simp); omega
        intro v1 W1 hown1 hgr1 _
        have OWN1 := Lib.hid (Own.snoc hown1)
        have WB1 := Lib.hid (Below.grown (WB.out.alloc WB.out.size _) hgr1 (by (try simp); omega) (OWN.out.base))
        have zW1 := WB1.out.size
        clear hown1 hgr1 OWN WB
        go_wp2_with (with_reducible refine wpList_append_own _ (o := ⟨some 45, _, _, _, _, _⟩) rfl _ _ 62 rfl w.heap.size 209 i0 (.int .u16 0) 1 2 Tryd.underlying62 HI.out HI0.out HI1.out HI2.out rfl (by decide) _ _ _ rfl (OWN1.out.alloc _).row ⟨W1.heap.size, 0, none⟩ 1 1 [.int .u16 (56320 + (x - 65536) % 1024)] rfl rfl ?c1 ?c2 ?c3 ?c4 ?c5 ?_)
        case c1 =>
          intro j u hj
          have hj0 : j = 0 := by rcases j with _ | j <;> simp at hj ⊢
          subst hj0
          simp at hj
          subst hj
          simp [Addr.add_lit, World.cell?_alloc_new]
        case c2 => simp [Value.oneCell']
        case c3 => unfold maxLen; (try simp); omega
        case c4 => (try simp); omega
        case c5 => (try simp); omega
        intro v2 W2 hown2 hgr2 _
        have OWN2 := Lib.hid (Own.snoc2 hown2)
        have WB2 := Lib.hid (Below.grown (WB1.out.alloc WB1.out.size _) hgr2 (by (try simp); omega) (OWN1.out.base))
        clear hown2 hgr2
        go_wp2_with fail
        go_roundw
        case rel => exact ⟨p, _, by go_num, HUT.out, OWN2.out, WB2.out⟩
        case measure => simp [intOf]; omega
    · have hp1 : ¬ (pos : Int) < (s.size : Int) := by omega
      have HE := Lib.hid (show U16 s w (.returned (.slice a out.length c)) wr from ⟨_, rfl, by rw [← hut.end hp]; exact hown, hb⟩)
      clear hut hown hb
      go_wp2_with fail
      go_ret
      exact HE.out

def RowV (w : World) (a : Option Addr) (len : Nat) (f : Nat → Value) : Prop :=
  0 < len → ∃ B, a = some ⟨B, 0, none⟩ ∧ ∀ i, i < len → w.cell? ⟨B, i, none⟩ = some (f i)
theorem RowV.below {w w' : World} {a : Option Addr} {len : Nat} {f : Nat → Value} (h : RowV w a len f) (hb : Below w.heap.size w w') : RowV w' a len f := fun hp => by
  obtain ⟨B, e, hc⟩ := h hp
  exact ⟨B, e, fun i hi => kept hb (hc i hi)⟩
theorem Own.read {w : World} {B : Nat} {v : Value} {out : List Int} (h : Own w B v out) : ∃ a c, v = .slice a out.length c ∧ RowV w a out.length (fun i => .int .u16 (out.getD i 0)) := by
  have hh := h
  obtain ⟨_, ⟨rfl, h0⟩ | ⟨g, cap, cur, rfl, _⟩⟩ := h
  · exact ⟨none, 0, by rw [h0], fun hp => by omega⟩
  · refine ⟨_, _, rfl, fun _ => ⟨g, rfl, fun i hi => ?_⟩⟩
    have := World.ownsRow.cells hh (g := g) rfl i (.int .u16 (out.getD i 0)) (by simp [List.getD, hi])
    rwa [Addr.add_lit, Nat.zero_add] at this
def QR (n : Nat) (w : World) (i : Value) (wr : World) : Prop := ∃ k : Nat, k ≤ n ∧ i = .int .i64 k ∧ Hid (Below w.heap.size w wr)
def EqP (w : World) (e : Ending) (w' : World) : Prop := e = .returned (.bool true) ∧ Below w.heap.size w w'
set_option maxRecDepth 100000 in
set_option maxHeartbeats 4000000 in
theorem zeq (n : Nat) (f : Nat → Int) (a1 a2 : Option Addr) (c1 c2 : Nat) (w : World) (h1 : RowV w a1 n (fun i => .int .u16 (f i))) (h2 : RowV w a2 n (fun i => .int .u16 (f i))) (hn : n ≤ 4194304) :
    Calls Tryd.prog 15 #[.slice a1 n c1, .slice a2 n c2] w (EqP w) := by
  have H1 := Lib.hid h1
  have H2 := Lib.hid h2
  clear h1 h2
  go_enter Tryd.func15, Tryd.ntmps15
  go_wp2_with fail
  go_loopw [5] (fun i wr => QR n w i wr) (fun i _ => n - (intOf i).toNat)
  case atStart => exact ⟨0, Nat.zero_le _, rfl, Lib.hid (Below.refl _ _)⟩
  case round =>
    obtain ⟨k, hk, rfl, HB⟩ := hrel
    by_cases hkn : k < n
    · obtain ⟨B1, rfl, hc1⟩ := H1.out (by omega)
      obtain ⟨B2, rfl, hc2⟩ := H2.out (by omega)
      have x1 := kept HB.out (hc1 k hkn)
      have x2 := kept HB.out (hc2 k hkn)
      obtain ⟨z, hz⟩ : ∃ z, z = f k := ⟨_, rfl⟩
      simp only [← hz] at x1 x2
      have l1 := World.block_lt_of_cell? _ _ x1
      have l2 := World.block_lt_of_cell? _ _ x2
      have ne : (z != z) = false := by simp
      have k0 : (0 : Int) ≤ (k : Int) := Int.natCast_nonneg _
      have k1 : (k : Int) < (n : Int) := by omega
      clear hc1 hc2 hz
      go_wp2_with fail
      go_quiet (fail)
      go_wp2_with fail
      go_roundw
      case rel => exact ⟨k + 1, by omega, by go_num, Lib.hid (below_drewN HB.out _)⟩
      case measure => simp [intOf]; omega
    · have k1 : ¬ (k : Int) < (n : Int) := by omega
      go_wp2_with fail
      go_ret
      exact ⟨rfl, HB.out⟩
end Go.Proofs.YtlbkdflbhhbibaaDoor
