/- Proved here: contracts of CheckEqualityBigInt, IsPrimitiveLiteral and of CheckEqualityIfNoSideEffects at two literals. Conditions: the nodes' cells, as stated. -/
import Derived.Test.YtgghakmfcodojaaDCA
import Derived.WalkKit
import Derived.WalkSpells
import Derived.WalkLawsBesides
import Derived.Lib.Hide
import Derived.Lib.SliceRun
import Derived.Deep.RegionWith
import Derived.Deep.QuietTactic
import Derived.BigQuiet
namespace Go.Proofs.Ytgghakmfcodojaa.Cq
open Go.RowKit
set_option linter.unusedSimpArgs false
set_option linter.unusedVariables false

def QP (e1 o1 : Bool) (w : World) (e : Ending) (w' : World) : Prop := e = .returned (.tuple #[.bool e1, .bool o1]) ∧ ∃ m, w' = w.drewN m
def IsT (w : World) (e : Ending) (w' : World) : Prop := e = .returned (.bool true) ∧ w' = w
def canon (s : ByteArray) : Bool := if h : s.size < 2 then true else ((s[0]'(by omega)).toNat : Int) != 48
theorem canon_s {s : ByteArray} (h : s.size < 2) : canon s = true := by unfold canon; rw [dif_pos h]
theorem canon_l {s : ByteArray} (h : 2 ≤ s.size) : canon s = (((s[0]'(by omega)).toNat : Int) != 48) := by unfold canon; rw [dif_neg (by omega)]

set_option maxRecDepth 100000 in
set_option maxHeartbeats 1000000 in
theorem big_eq (s t : ByteArray) (w : World) (h : (s.toList == t.toList) = true) :
    Calls Try.prog 40 #[.string s, .string t] w (QP true true w) := by
  go_enter Try.func40, Try.ntmps40
  go_wp2_with fail
  go_ret2
  exact ⟨rfl, ⟨0, rfl⟩⟩

set_option maxRecDepth 100000 in
set_option maxHeartbeats 1000000 in
theorem big_ss (s t : ByteArray) (w : World) (h : (s.toList == t.toList) = false) (s1 : s.size < 2) (t1 : t.size < 2) :
    Calls Try.prog 40 #[.string s, .string t] w (QP false true w) := by
  have ds : decide ((s.size : Int) < 2) = true := by simp; omega
  have dt : decide ((t.size : Int) < 2) = true := by simp; omega
  go_enter Try.func40, Try.ntmps40
  go_wp2_with fail
  go_ret2
  exact ⟨rfl, ⟨0, rfl⟩⟩

set_option maxRecDepth 100000 in
set_option maxHeartbeats 1000000 in
theorem big_sy (s t : ByteArray) (w : World) (h : (s.toList == t.toList) = false) (s1 : s.size < 2) (t1 : 2 ≤ t.size) (t3 : t.size ≤ 1048576) (t2 : (((t[0]'(by omega)).toNat : Int) != 48) = true) :
    Calls Try.prog 40 #[.string s, .string t] w (QP false true w) := by
  have ds : decide ((s.size : Int) < 2) = true := by simp; omega
  have dt : decide ((t.size : Int) < 2) = false := by simp; omega
  go_enter Try.func40, Try.ntmps40
  go_wp2_with fail
  go_ret2
  exact ⟨rfl, ⟨0, rfl⟩⟩

set_option maxRecDepth 100000 in
set_option maxHeartbeats 1000000 in
theorem big_sn (s t : ByteArray) (w : World) (h : (s.toList == t.toList) = false) (s1 : s.size < 2) (t1 : 2 ≤ t.size) (t3 : t.size ≤ 1048576) (t2 : (((t[0]'(by omega)).toNat : Int) != 48) = false) :
    Calls Try.prog 40 #[.string s, .string t] w (QP false false w) := by
  have ds : decide ((s.size : Int) < 2) = true := by simp; omega
  have dt : decide ((t.size : Int) < 2) = false := by simp; omega
  go_enter Try.func40, Try.ntmps40
  go_wp2_with fail
  go_ret2
  exact ⟨rfl, ⟨0, rfl⟩⟩

set_option maxRecDepth 100000 in
set_option maxHeartbeats 1000000 in
theorem big_ys (s t : ByteArray) (w : World) (h : (s.toList == t.toList) = false) (s1 : 2 ≤ s.size) (s3 : s.size ≤ 1048576) (s2 : (((s[0]'(by omega)).toNat : Int) != 48) = true) (t1 : t.size < 2) :
    Calls Try.prog 40 #[.string s, .string t] w (QP false true w) := by
  have ds : decide ((s.size : Int) < 2) = false := by simp; omega
  have dt : decide ((t.size : Int) < 2) = true := by simp; omega
  go_enter Try.func40, Try.ntmps40
  go_wp2_with fail
  go_ret2
  exact ⟨rfl, ⟨0, rfl⟩⟩

set_option maxRecDepth 100000 in
set_option maxHeartbeats 1000000 in
theorem big_yy (s t : ByteArray) (w : World) (h : (s.toList == t.toList) = false) (s1 : 2 ≤ s.size) (s3 : s.size ≤ 1048576) (s2 : (((s[0]'(by omega)).toNat : Int) != 48) = true) (t1 : 2 ≤ t.size) (t3 : t.size ≤ 1048576) (t2 : (((t[0]'(by omega)).toNat : Int) != 48) = true) :
    Calls Try.prog 40 #[.string s, .string t] w (QP false true w) := by
  have ds : decide ((s.size : Int) < 2) = false := by simp; omega
  have dt : decide ((t.size : Int) < 2) = false := by simp; omega
  go_enter Try.func40, Try.ntmps40
  go_wp2_with fail
  go_ret2
  exact ⟨rfl, ⟨0, rfl⟩⟩

set_option maxRecDepth 100000 in
set_option maxHeartbeats 1000000 in
theorem big_yn (s t : ByteArray) (w : World) (h : (s.toList == t.toList) = false) (s1 : 2 ≤ s.size) (s3 : s.size ≤ 1048576) (s2 : (((s[0]'(by omega)).toNat : Int) != 48) = true) (t1 : 2 ≤ t.size) (t3 : t.size ≤ 1048576) (t2 : (((t[0]'(by omega)).toNat : Int) != 48) = false) :
    Calls Try.prog 40 #[.string s, .string t] w (QP false false w) := by
  have ds : decide ((s.size : Int) < 2) = false := by simp; omega
  have dt : decide ((t.size : Int) < 2) = false := by simp; omega
  go_enter Try.func40, Try.ntmps40
  go_wp2_with fail
  go_ret2
  exact ⟨rfl, ⟨0, rfl⟩⟩

set_option maxRecDepth 100000 in
set_option maxHeartbeats 1000000 in
theorem big_n (s t : ByteArray) (w : World) (h : (s.toList == t.toList) = false) (s1 : 2 ≤ s.size) (s3 : s.size ≤ 1048576) (s2 : (((s[0]'(by omega)).toNat : Int) != 48) = false) :
    Calls Try.prog 40 #[.string s, .string t] w (QP false false w) := by
  have ds : decide ((s.size : Int) < 2) = false := by simp; omega
  go_enter Try.func40, Try.ntmps40
  go_wp2_with fail
  go_ret2
  exact ⟨rfl, ⟨0, rfl⟩⟩

theorem big_any (s t : ByteArray) (w : World) (hs : s.size ≤ 1048576) (ht : t.size ≤ 1048576) : Calls Try.prog 40 #[.string s, .string t] w (QP (s.toList == t.toList) ((s.toList == t.toList) || (canon s && canon t)) w) := by
  cases h : (s.toList == t.toList)
  · rw [Bool.false_or]
    by_cases c1 : s.size < 2
    · rw [canon_s c1, Bool.true_and]
      by_cases c2 : t.size < 2
      · rw [canon_s c2]; exact big_ss s t w h c1 c2
      · have c2' : 2 ≤ t.size := by omega
        rw [canon_l c2']
        cases g : (((t[0]'(by omega)).toNat : Int) != 48)
        · exact big_sn s t w h c1 c2' ht g
        · exact big_sy s t w h c1 c2' ht g
    · have c1' : 2 ≤ s.size := by omega
      rw [canon_l c1']
      cases f : (((s[0]'(by omega)).toNat : Int) != 48)
      · rw [Bool.false_and]; exact big_n s t w h c1' hs f
      · rw [Bool.true_and]
        by_cases c2 : t.size < 2
        · rw [canon_s c2]; exact big_ys s t w h c1' hs f c2
        · have c2' : 2 ≤ t.size := by omega
          rw [canon_l c2']
          cases g : (((t[0]'(by omega)).toNat : Int) != 48)
          · exact big_yn s t w h c1' hs f c2' ht g
          · exact big_yy s t w h c1' hs f c2' ht g
  · exact big_eq s t w h

set_option maxRecDepth 100000 in
set_option maxHeartbeats 1000000 in
theorem prim69 (p : Nat) (w : World) :
    Calls Try.prog 39 #[.iface 69 (.pointer (some ⟨p, 0, none⟩))] w (IsT w) := by
  go_enter Try.func39, Try.ntmps39
  go_wp2_with fail
  go_ret
  exact ⟨rfl, rfl⟩

set_option maxRecDepth 100000 in
set_option maxHeartbeats 1000000 in
theorem prim70 (p : Nat) (w : World) :
    Calls Try.prog 39 #[.iface 70 (.pointer (some ⟨p, 0, none⟩))] w (IsT w) := by
  go_enter Try.func39, Try.ntmps39
  go_wp2_with fail
  go_ret
  exact ⟨rfl, rfl⟩

set_option maxRecDepth 100000 in
set_option maxHeartbeats 1000000 in
theorem prim72 (p : Nat) (w : World) :
    Calls Try.prog 39 #[.iface 72 (.pointer (some ⟨p, 0, none⟩))] w (IsT w) := by
  go_enter Try.func39, Try.ntmps39
  go_wp2_with fail
  go_ret
  exact ⟨rfl, rfl⟩

set_option maxRecDepth 100000 in
set_option maxHeartbeats 1000000 in
theorem prim75 (p : Nat) (w : World) :
    Calls Try.prog 39 #[.iface 75 (.pointer (some ⟨p, 0, none⟩))] w (IsT w) := by
  go_enter Try.func39, Try.ntmps39
  go_wp2_with fail
  go_ret
  exact ⟨rfl, rfl⟩

set_option maxRecDepth 100000 in
set_option maxHeartbeats 1000000 in
theorem prim78 (p : Nat) (w : World) :
    Calls Try.prog 39 #[.iface 78 (.pointer (some ⟨p, 0, none⟩))] w (IsT w) := by
  go_enter Try.func39, Try.ntmps39
  go_wp2_with fail
  go_ret
  exact ⟨rfl, rfl⟩

set_option maxRecDepth 100000 in
set_option maxHeartbeats 1000000 in
theorem prim82 (p : Nat) (w : World) :
    Calls Try.prog 39 #[.iface 82 (.pointer (some ⟨p, 0, none⟩))] w (IsT w) := by
  go_enter Try.func39, Try.ntmps39
  go_wp2_with fail
  go_ret
  exact ⟨rfl, rfl⟩

/-- A literal of kind k (0 null, 1 undefined, 2 boolean, 3 number, 4 bigint, 5 string) at block p. -/
def CAt (w : World) (p k : Nat) (x : Nat) (b : Bool) (s : ByteArray) (a : Option Addr) (n c : Nat) : Prop :=
  (k = 2 → w.cell? ⟨p, 0, none⟩ = some (.bool b)) ∧ (k = 3 → w.cell? ⟨p, 0, none⟩ = some (.float .f64 x)) ∧ (k = 4 → w.cell? ⟨p, 0, none⟩ = some (.string s)) ∧ (k = 5 → w.cell? ⟨p, 0, none⟩ = some (.slice a n c))
def cty (k : Nat) : Nat := if k = 0 then 69 else if k = 1 then 70 else if k = 2 then 72 else if k = 3 then 75 else if k = 4 then 78 else 82
def one (b : Bool) : Nat := if b then 4607182418800017408 else 0
noncomputable def cr (strict : Bool) (k x : Nat) (b : Bool) (s : ByteArray) (n : Nat) (zs : List Int) (k' x' : Nat) (b' : Bool) (s' : ByteArray) (n' : Nat) (zs' : List Int) : Bool × Bool :=
  if k ≤ 1 then (if k' ≤ 1 then (if k = k' then (true, true) else (!strict, true)) else (false, true))
  else if k' ≤ 1 then (false, true)
  else if k = k' then (if k = 2 then (b == b', true) else if k = 3 then (FloatKind.f64.format.order x x' == some .eq, true) else if k = 4 then (s.toList == s'.toList, (s.toList == s'.toList) || (canon s && canon s')) else (ueq n n' zs zs', true))
  else if strict then (false, true)
  else if k = 2 ∧ k' = 3 then (FloatKind.f64.format.order x' (one b) == some .eq, true)
  else if k = 3 ∧ k' = 2 then (FloatKind.f64.format.order x (one b') == some .eq, true)
  else (false, false)
theorem CAt.mono {w w' : World} {p k x : Nat} {b : Bool} {s : ByteArray} {a : Option Addr} {n c : Nat} (h : CAt w p k x b s a n c) (hm : ∀ o u, w.cell? ⟨p, o, none⟩ = some u → w'.cell? ⟨p, o, none⟩ = some u) : CAt w' p k x b s a n c :=
  ⟨fun e => hm _ _ (h.1 e), fun e => hm _ _ (h.2.1 e), fun e => hm _ _ (h.2.2.1 e), fun e => hm _ _ (h.2.2.2 e)⟩
theorem CAt.below {w w' : World} {p k x : Nat} {b : Bool} {s : ByteArray} {a : Option Addr} {n c : Nat} (h : CAt w p k x b s a n c) (hb : Below w.heap.size w w') : CAt w' p k x b s a n c := h.mono fun _ _ hc => kept hb hc

set_option maxRecDepth 100000 in
set_option maxHeartbeats 1000000 in
theorem c0_00 (p q : Nat) (w : World) :
    Calls Try.prog 19 #[.iface 69 (.pointer (some ⟨p, 0, none⟩)), .iface 69 (.pointer (some ⟨q, 0, none⟩)), .int .u8 0] w (QP true true w) := by
  go_enter Try.func19, Try.ntmps19
  go_wp2_with fail
  go_ret2
  exact ⟨rfl, ⟨0, rfl⟩⟩

set_option maxRecDepth 100000 in
set_option maxHeartbeats 1000000 in
theorem c0_01 (p q : Nat) (w : World) :
    Calls Try.prog 19 #[.iface 69 (.pointer (some ⟨p, 0, none⟩)), .iface 70 (.pointer (some ⟨q, 0, none⟩)), .int .u8 0] w (QP true true w) := by
  go_enter Try.func19, Try.ntmps19
  go_wp2_with fail
  go_ret2
  exact ⟨rfl, ⟨0, rfl⟩⟩

set_option maxRecDepth 100000 in
set_option maxHeartbeats 1000000 in
theorem c0_02 (p q : Nat) (w : World) :
    Calls Try.prog 19 #[.iface 69 (.pointer (some ⟨p, 0, none⟩)), .iface 72 (.pointer (some ⟨q, 0, none⟩)), .int .u8 0] w (QP false true w) := by
  go_enter Try.func19, Try.ntmps19
  go_wp2_with fail
  refine (prim72 q _).mono ?_
  rintro e w' ⟨rfl, rfl⟩
  go_wp2_with fail
  go_ret2
  exact ⟨rfl, ⟨0, rfl⟩⟩

set_option maxRecDepth 100000 in
set_option maxHeartbeats 1000000 in
theorem c0_03 (p q : Nat) (w : World) :
    Calls Try.prog 19 #[.iface 69 (.pointer (some ⟨p, 0, none⟩)), .iface 75 (.pointer (some ⟨q, 0, none⟩)), .int .u8 0] w (QP false true w) := by
  go_enter Try.func19, Try.ntmps19
  go_wp2_with fail
  refine (prim75 q _).mono ?_
  rintro e w' ⟨rfl, rfl⟩
  go_wp2_with fail
  go_ret2
  exact ⟨rfl, ⟨0, rfl⟩⟩

set_option maxRecDepth 100000 in
set_option maxHeartbeats 1000000 in
theorem c0_04 (p q : Nat) (w : World) :
    Calls Try.prog 19 #[.iface 69 (.pointer (some ⟨p, 0, none⟩)), .iface 78 (.pointer (some ⟨q, 0, none⟩)), .int .u8 0] w (QP false true w) := by
  go_enter Try.func19, Try.ntmps19
  go_wp2_with fail
  refine (prim78 q _).mono ?_
  rintro e w' ⟨rfl, rfl⟩
  go_wp2_with fail
  go_ret2
  exact ⟨rfl, ⟨0, rfl⟩⟩

set_option maxRecDepth 100000 in
set_option maxHeartbeats 1000000 in
theorem c0_05 (p q : Nat) (w : World) :
    Calls Try.prog 19 #[.iface 69 (.pointer (some ⟨p, 0, none⟩)), .iface 82 (.pointer (some ⟨q, 0, none⟩)), .int .u8 0] w (QP false true w) := by
  go_enter Try.func19, Try.ntmps19
  go_wp2_with fail
  refine (prim82 q _).mono ?_
  rintro e w' ⟨rfl, rfl⟩
  go_wp2_with fail
  go_ret2
  exact ⟨rfl, ⟨0, rfl⟩⟩

set_option maxRecDepth 100000 in
set_option maxHeartbeats 1000000 in
theorem c0_10 (p q : Nat) (w : World) :
    Calls Try.prog 19 #[.iface 70 (.pointer (some ⟨p, 0, none⟩)), .iface 69 (.pointer (some ⟨q, 0, none⟩)), .int .u8 0] w (QP true true w) := by
  go_enter Try.func19, Try.ntmps19
  go_wp2_with fail
  go_ret2
  exact ⟨rfl, ⟨0, rfl⟩⟩

set_option maxRecDepth 100000 in
set_option maxHeartbeats 1000000 in
theorem c0_11 (p q : Nat) (w : World) :
    Calls Try.prog 19 #[.iface 70 (.pointer (some ⟨p, 0, none⟩)), .iface 70 (.pointer (some ⟨q, 0, none⟩)), .int .u8 0] w (QP true true w) := by
  go_enter Try.func19, Try.ntmps19
  go_wp2_with fail
  go_ret2
  exact ⟨rfl, ⟨0, rfl⟩⟩

set_option maxRecDepth 100000 in
set_option maxHeartbeats 1000000 in
theorem c0_12 (p q : Nat) (w : World) :
    Calls Try.prog 19 #[.iface 70 (.pointer (some ⟨p, 0, none⟩)), .iface 72 (.pointer (some ⟨q, 0, none⟩)), .int .u8 0] w (QP false true w) := by
  go_enter Try.func19, Try.ntmps19
  go_wp2_with fail
  refine (prim72 q _).mono ?_
  rintro e w' ⟨rfl, rfl⟩
  go_wp2_with fail
  go_ret2
  exact ⟨rfl, ⟨0, rfl⟩⟩

set_option maxRecDepth 100000 in
set_option maxHeartbeats 1000000 in
theorem c0_13 (p q : Nat) (w : World) :
    Calls Try.prog 19 #[.iface 70 (.pointer (some ⟨p, 0, none⟩)), .iface 75 (.pointer (some ⟨q, 0, none⟩)), .int .u8 0] w (QP false true w) := by
  go_enter Try.func19, Try.ntmps19
  go_wp2_with fail
  refine (prim75 q _).mono ?_
  rintro e w' ⟨rfl, rfl⟩
  go_wp2_with fail
  go_ret2
  exact ⟨rfl, ⟨0, rfl⟩⟩

set_option maxRecDepth 100000 in
set_option maxHeartbeats 1000000 in
theorem c0_14 (p q : Nat) (w : World) :
    Calls Try.prog 19 #[.iface 70 (.pointer (some ⟨p, 0, none⟩)), .iface 78 (.pointer (some ⟨q, 0, none⟩)), .int .u8 0] w (QP false true w) := by
  go_enter Try.func19, Try.ntmps19
  go_wp2_with fail
  refine (prim78 q _).mono ?_
  rintro e w' ⟨rfl, rfl⟩
  go_wp2_with fail
  go_ret2
  exact ⟨rfl, ⟨0, rfl⟩⟩

set_option maxRecDepth 100000 in
set_option maxHeartbeats 1000000 in
theorem c0_15 (p q : Nat) (w : World) :
    Calls Try.prog 19 #[.iface 70 (.pointer (some ⟨p, 0, none⟩)), .iface 82 (.pointer (some ⟨q, 0, none⟩)), .int .u8 0] w (QP false true w) := by
  go_enter Try.func19, Try.ntmps19
  go_wp2_with fail
  refine (prim82 q _).mono ?_
  rintro e w' ⟨rfl, rfl⟩
  go_wp2_with fail
  go_ret2
  exact ⟨rfl, ⟨0, rfl⟩⟩

set_option maxRecDepth 100000 in
set_option maxHeartbeats 1000000 in
theorem c0_20 (p q : Nat) (w : World) :
    Calls Try.prog 19 #[.iface 72 (.pointer (some ⟨p, 0, none⟩)), .iface 69 (.pointer (some ⟨q, 0, none⟩)), .int .u8 0] w (QP false true w) := by
  go_enter Try.func19, Try.ntmps19
  go_wp2_with fail
  go_ret2
  exact ⟨rfl, ⟨0, rfl⟩⟩

set_option maxRecDepth 100000 in
set_option maxHeartbeats 1000000 in
theorem c0_21 (p q : Nat) (w : World) :
    Calls Try.prog 19 #[.iface 72 (.pointer (some ⟨p, 0, none⟩)), .iface 70 (.pointer (some ⟨q, 0, none⟩)), .int .u8 0] w (QP false true w) := by
  go_enter Try.func19, Try.ntmps19
  go_wp2_with fail
  go_ret2
  exact ⟨rfl, ⟨0, rfl⟩⟩

set_option maxRecDepth 100000 in
set_option maxHeartbeats 1000000 in
theorem c0_22 (p q : Nat) (b b' : Bool) (w : World) (h1 : w.cell? ⟨p, 0, none⟩ = some (.bool b)) (h2 : w.cell? ⟨q, 0, none⟩ = some (.bool b')) :
    Calls Try.prog 19 #[.iface 72 (.pointer (some ⟨p, 0, none⟩)), .iface 72 (.pointer (some ⟨q, 0, none⟩)), .int .u8 0] w (QP (b == b') true w) := by
  have lp : p < w.heap.size := World.block_lt_of_cell? _ _ h1
  have lq : q < w.heap.size := World.block_lt_of_cell? _ _ h2
  go_enter Try.func19, Try.ntmps19
  go_wp2_with fail
  go_quiet (fail)
  go_wp2_with fail
  go_ret2
  exact ⟨rfl, ⟨_, rfl⟩⟩

set_option maxRecDepth 100000 in
set_option maxHeartbeats 1000000 in
theorem c0_23t (p q x' : Nat) (w : World) (h1 : w.cell? ⟨p, 0, none⟩ = some (.bool true)) (h2 : w.cell? ⟨q, 0, none⟩ = some (.float .f64 x')) :
    Calls Try.prog 19 #[.iface 72 (.pointer (some ⟨p, 0, none⟩)), .iface 75 (.pointer (some ⟨q, 0, none⟩)), .int .u8 0] w (QP (FloatKind.f64.format.order x' (4607182418800017408) == some .eq) true w) := by
  have lp : p < w.heap.size := World.block_lt_of_cell? _ _ h1
  have lq : q < w.heap.size := World.block_lt_of_cell? _ _ h2
  go_enter Try.func19, Try.ntmps19
  go_wp2_with fail
  go_ret2
  exact ⟨rfl, ⟨0, rfl⟩⟩

set_option maxRecDepth 100000 in
set_option maxHeartbeats 1000000 in
theorem c0_23f (p q x' : Nat) (w : World) (h1 : w.cell? ⟨p, 0, none⟩ = some (.bool false)) (h2 : w.cell? ⟨q, 0, none⟩ = some (.float .f64 x')) :
    Calls Try.prog 19 #[.iface 72 (.pointer (some ⟨p, 0, none⟩)), .iface 75 (.pointer (some ⟨q, 0, none⟩)), .int .u8 0] w (QP (FloatKind.f64.format.order x' (0) == some .eq) true w) := by
  have lp : p < w.heap.size := World.block_lt_of_cell? _ _ h1
  have lq : q < w.heap.size := World.block_lt_of_cell? _ _ h2
  go_enter Try.func19, Try.ntmps19
  go_wp2_with fail
  go_ret2
  exact ⟨rfl, ⟨0, rfl⟩⟩

set_option maxRecDepth 100000 in
set_option maxHeartbeats 1000000 in
theorem c0_24 (p q : Nat) (w : World) :
    Calls Try.prog 19 #[.iface 72 (.pointer (some ⟨p, 0, none⟩)), .iface 78 (.pointer (some ⟨q, 0, none⟩)), .int .u8 0] w (QP false false w) := by
  go_enter Try.func19, Try.ntmps19
  go_wp2_with fail
  go_ret2
  exact ⟨rfl, ⟨0, rfl⟩⟩

set_option maxRecDepth 100000 in
set_option maxHeartbeats 1000000 in
theorem c0_25 (p q : Nat) (w : World) :
    Calls Try.prog 19 #[.iface 72 (.pointer (some ⟨p, 0, none⟩)), .iface 82 (.pointer (some ⟨q, 0, none⟩)), .int .u8 0] w (QP false false w) := by
  go_enter Try.func19, Try.ntmps19
  go_wp2_with fail
  go_ret2
  exact ⟨rfl, ⟨0, rfl⟩⟩

set_option maxRecDepth 100000 in
set_option maxHeartbeats 1000000 in
theorem c0_30 (p q : Nat) (w : World) :
    Calls Try.prog 19 #[.iface 75 (.pointer (some ⟨p, 0, none⟩)), .iface 69 (.pointer (some ⟨q, 0, none⟩)), .int .u8 0] w (QP false true w) := by
  go_enter Try.func19, Try.ntmps19
  go_wp2_with fail
  go_ret2
  exact ⟨rfl, ⟨0, rfl⟩⟩

set_option maxRecDepth 100000 in
set_option maxHeartbeats 1000000 in
theorem c0_31 (p q : Nat) (w : World) :
    Calls Try.prog 19 #[.iface 75 (.pointer (some ⟨p, 0, none⟩)), .iface 70 (.pointer (some ⟨q, 0, none⟩)), .int .u8 0] w (QP false true w) := by
  go_enter Try.func19, Try.ntmps19
  go_wp2_with fail
  go_ret2
  exact ⟨rfl, ⟨0, rfl⟩⟩

set_option maxRecDepth 100000 in
set_option maxHeartbeats 1000000 in
theorem c0_32t (p q x : Nat) (w : World) (h1 : w.cell? ⟨q, 0, none⟩ = some (.bool true)) (h2 : w.cell? ⟨p, 0, none⟩ = some (.float .f64 x)) :
    Calls Try.prog 19 #[.iface 75 (.pointer (some ⟨p, 0, none⟩)), .iface 72 (.pointer (some ⟨q, 0, none⟩)), .int .u8 0] w (QP (FloatKind.f64.format.order x (4607182418800017408) == some .eq) true w) := by
  have lq : q < w.heap.size := World.block_lt_of_cell? _ _ h1
  have lp : p < w.heap.size := World.block_lt_of_cell? _ _ h2
  go_enter Try.func19, Try.ntmps19
  go_wp2_with fail
  go_ret2
  exact ⟨rfl, ⟨0, rfl⟩⟩

set_option maxRecDepth 100000 in
set_option maxHeartbeats 1000000 in
theorem c0_32f (p q x : Nat) (w : World) (h1 : w.cell? ⟨q, 0, none⟩ = some (.bool false)) (h2 : w.cell? ⟨p, 0, none⟩ = some (.float .f64 x)) :
    Calls Try.prog 19 #[.iface 75 (.pointer (some ⟨p, 0, none⟩)), .iface 72 (.pointer (some ⟨q, 0, none⟩)), .int .u8 0] w (QP (FloatKind.f64.format.order x (0) == some .eq) true w) := by
  have lq : q < w.heap.size := World.block_lt_of_cell? _ _ h1
  have lp : p < w.heap.size := World.block_lt_of_cell? _ _ h2
  go_enter Try.func19, Try.ntmps19
  go_wp2_with fail
  go_ret2
  exact ⟨rfl, ⟨0, rfl⟩⟩

set_option maxRecDepth 100000 in
set_option maxHeartbeats 1000000 in
theorem c0_33 (p q : Nat) (x x' : Nat) (w : World) (h1 : w.cell? ⟨p, 0, none⟩ = some (.float .f64 x)) (h2 : w.cell? ⟨q, 0, none⟩ = some (.float .f64 x')) :
    Calls Try.prog 19 #[.iface 75 (.pointer (some ⟨p, 0, none⟩)), .iface 75 (.pointer (some ⟨q, 0, none⟩)), .int .u8 0] w (QP (FloatKind.f64.format.order x x' == some .eq) true w) := by
  have lp : p < w.heap.size := World.block_lt_of_cell? _ _ h1
  have lq : q < w.heap.size := World.block_lt_of_cell? _ _ h2
  go_enter Try.func19, Try.ntmps19
  go_wp2_with fail
  go_quiet (fail)
  go_wp2_with fail
  go_ret2
  exact ⟨rfl, ⟨_, rfl⟩⟩

set_option maxRecDepth 100000 in
set_option maxHeartbeats 1000000 in
theorem c0_34 (p q : Nat) (w : World) :
    Calls Try.prog 19 #[.iface 75 (.pointer (some ⟨p, 0, none⟩)), .iface 78 (.pointer (some ⟨q, 0, none⟩)), .int .u8 0] w (QP false false w) := by
  go_enter Try.func19, Try.ntmps19
  go_wp2_with fail
  go_ret2
  exact ⟨rfl, ⟨0, rfl⟩⟩

set_option maxRecDepth 100000 in
set_option maxHeartbeats 1000000 in
theorem c0_35 (p q : Nat) (w : World) :
    Calls Try.prog 19 #[.iface 75 (.pointer (some ⟨p, 0, none⟩)), .iface 82 (.pointer (some ⟨q, 0, none⟩)), .int .u8 0] w (QP false false w) := by
  go_enter Try.func19, Try.ntmps19
  go_wp2_with fail
  go_ret2
  exact ⟨rfl, ⟨0, rfl⟩⟩

set_option maxRecDepth 100000 in
set_option maxHeartbeats 1000000 in
theorem c0_40 (p q : Nat) (w : World) :
    Calls Try.prog 19 #[.iface 78 (.pointer (some ⟨p, 0, none⟩)), .iface 69 (.pointer (some ⟨q, 0, none⟩)), .int .u8 0] w (QP false true w) := by
  go_enter Try.func19, Try.ntmps19
  go_wp2_with fail
  go_ret2
  exact ⟨rfl, ⟨0, rfl⟩⟩

set_option maxRecDepth 100000 in
set_option maxHeartbeats 1000000 in
theorem c0_41 (p q : Nat) (w : World) :
    Calls Try.prog 19 #[.iface 78 (.pointer (some ⟨p, 0, none⟩)), .iface 70 (.pointer (some ⟨q, 0, none⟩)), .int .u8 0] w (QP false true w) := by
  go_enter Try.func19, Try.ntmps19
  go_wp2_with fail
  go_ret2
  exact ⟨rfl, ⟨0, rfl⟩⟩

set_option maxRecDepth 100000 in
set_option maxHeartbeats 1000000 in
theorem c0_42 (p q : Nat) (w : World) :
    Calls Try.prog 19 #[.iface 78 (.pointer (some ⟨p, 0, none⟩)), .iface 72 (.pointer (some ⟨q, 0, none⟩)), .int .u8 0] w (QP false false w) := by
  go_enter Try.func19, Try.ntmps19
  go_wp2_with fail
  go_ret2
  exact ⟨rfl, ⟨0, rfl⟩⟩

set_option maxRecDepth 100000 in
set_option maxHeartbeats 1000000 in
theorem c0_43 (p q : Nat) (w : World) :
    Calls Try.prog 19 #[.iface 78 (.pointer (some ⟨p, 0, none⟩)), .iface 75 (.pointer (some ⟨q, 0, none⟩)), .int .u8 0] w (QP false false w) := by
  go_enter Try.func19, Try.ntmps19
  go_wp2_with fail
  go_ret2
  exact ⟨rfl, ⟨0, rfl⟩⟩

set_option maxRecDepth 100000 in
set_option maxHeartbeats 1000000 in
theorem c0_44 (p q : Nat) (s s' : ByteArray) (w : World) (h1 : w.cell? ⟨p, 0, none⟩ = some (.string s)) (h2 : w.cell? ⟨q, 0, none⟩ = some (.string s')) (m1 : s.size ≤ 1048576) (m2 : s'.size ≤ 1048576) :
    Calls Try.prog 19 #[.iface 78 (.pointer (some ⟨p, 0, none⟩)), .iface 78 (.pointer (some ⟨q, 0, none⟩)), .int .u8 0] w (QP (s.toList == s'.toList) ((s.toList == s'.toList) || (canon s && canon s')) w) := by
  have lp : p < w.heap.size := World.block_lt_of_cell? _ _ h1
  have lq : q < w.heap.size := World.block_lt_of_cell? _ _ h2
  have HC := Lib.hid (fun W : World => big_any s s' W m1 m2)
  obtain ⟨g, hg⟩ : ∃ g, g = (s.toList == s'.toList) := ⟨_, rfl⟩
  obtain ⟨g', hg'⟩ : ∃ g', g' = (g || (canon s && canon s')) := ⟨_, rfl⟩
  rw [← hg, ← hg']
  have HC' := Lib.hid (show ∀ W : World, Calls Try.prog 40 #[.string s, .string s'] W (QP g g' W) from fun W => by rw [hg', hg]; exact HC.out W)
  clear hg hg' HC
  go_enter Try.func19, Try.ntmps19
  go_wp2_with fail
  go_quiet ((go_at_call 40; exact Calls.quiet_of (HC'.out _)))
  go_wp2_with fail
  go_ret2
  exact ⟨rfl, ⟨_, rfl⟩⟩

set_option maxRecDepth 100000 in
set_option maxHeartbeats 1000000 in
theorem c0_45 (p q : Nat) (w : World) :
    Calls Try.prog 19 #[.iface 78 (.pointer (some ⟨p, 0, none⟩)), .iface 82 (.pointer (some ⟨q, 0, none⟩)), .int .u8 0] w (QP false false w) := by
  go_enter Try.func19, Try.ntmps19
  go_wp2_with fail
  go_ret2
  exact ⟨rfl, ⟨0, rfl⟩⟩

set_option maxRecDepth 100000 in
set_option maxHeartbeats 1000000 in
theorem c0_50 (p q : Nat) (w : World) :
    Calls Try.prog 19 #[.iface 82 (.pointer (some ⟨p, 0, none⟩)), .iface 69 (.pointer (some ⟨q, 0, none⟩)), .int .u8 0] w (QP false true w) := by
  go_enter Try.func19, Try.ntmps19
  go_wp2_with fail
  go_ret2
  exact ⟨rfl, ⟨0, rfl⟩⟩

set_option maxRecDepth 100000 in
set_option maxHeartbeats 1000000 in
theorem c0_51 (p q : Nat) (w : World) :
    Calls Try.prog 19 #[.iface 82 (.pointer (some ⟨p, 0, none⟩)), .iface 70 (.pointer (some ⟨q, 0, none⟩)), .int .u8 0] w (QP false true w) := by
  go_enter Try.func19, Try.ntmps19
  go_wp2_with fail
  go_ret2
  exact ⟨rfl, ⟨0, rfl⟩⟩

set_option maxRecDepth 100000 in
set_option maxHeartbeats 1000000 in
theorem c0_52 (p q : Nat) (w : World) :
    Calls Try.prog 19 #[.iface 82 (.pointer (some ⟨p, 0, none⟩)), .iface 72 (.pointer (some ⟨q, 0, none⟩)), .int .u8 0] w (QP false false w) := by
  go_enter Try.func19, Try.ntmps19
  go_wp2_with fail
  go_ret2
  exact ⟨rfl, ⟨0, rfl⟩⟩

set_option maxRecDepth 100000 in
set_option maxHeartbeats 1000000 in
theorem c0_53 (p q : Nat) (w : World) :
    Calls Try.prog 19 #[.iface 82 (.pointer (some ⟨p, 0, none⟩)), .iface 75 (.pointer (some ⟨q, 0, none⟩)), .int .u8 0] w (QP false false w) := by
  go_enter Try.func19, Try.ntmps19
  go_wp2_with fail
  go_ret2
  exact ⟨rfl, ⟨0, rfl⟩⟩

set_option maxRecDepth 100000 in
set_option maxHeartbeats 1000000 in
theorem c0_54 (p q : Nat) (w : World) :
    Calls Try.prog 19 #[.iface 82 (.pointer (some ⟨p, 0, none⟩)), .iface 78 (.pointer (some ⟨q, 0, none⟩)), .int .u8 0] w (QP false false w) := by
  go_enter Try.func19, Try.ntmps19
  go_wp2_with fail
  go_ret2
  exact ⟨rfl, ⟨0, rfl⟩⟩

set_option maxRecDepth 100000 in
set_option maxHeartbeats 1000000 in
theorem c0_55 (p q : Nat) (a a' : Option Addr) (n n' c c' : Nat) (zs zs' : List Int) (w : World) (h1 : w.cell? ⟨p, 0, none⟩ = some (.slice a n c)) (h2 : w.cell? ⟨q, 0, none⟩ = some (.slice a' n' c')) (r1 : RowV w a n (fun i => .int .u16 (uAt zs i))) (r2 : RowV w a' n' (fun i => .int .u16 (uAt zs' i))) (m1 : n ≤ 1048576) (m2 : n' ≤ 1048576) :
    Calls Try.prog 19 #[.iface 82 (.pointer (some ⟨p, 0, none⟩)), .iface 82 (.pointer (some ⟨q, 0, none⟩)), .int .u8 0] w (QP (ueq n n' zs zs') true w) := by
  have lp : p < w.heap.size := World.block_lt_of_cell? _ _ h1
  have lq : q < w.heap.size := World.block_lt_of_cell? _ _ h2
  have HC := Lib.hid (show ∀ W, Below w.heap.size w W → Calls Try.prog 41 #[.slice a n c, .slice a' n' c'] W (BPostQ (ueq n n' zs zs') W) from fun W hW => u41 a a' n n' c c' zs zs' W (r1.below hW) (r2.below hW) m1 m2)
  clear r1 r2
  obtain ⟨g, hg⟩ : ∃ g, g = ueq n n' zs zs' := ⟨_, rfl⟩
  rw [← hg] at HC ⊢
  clear hg
  go_enter Try.func19, Try.ntmps19
  go_wp2_with fail
  go_quiet ((go_at_call 41; exact Calls.quiet_of (HC.out _ (below_drewN (Below.refl _ _) _))))
  go_wp2_with fail
  go_ret2
  exact ⟨rfl, ⟨_, rfl⟩⟩

set_option maxRecDepth 100000 in
set_option maxHeartbeats 1000000 in
theorem c1_00 (p q : Nat) (w : World) :
    Calls Try.prog 19 #[.iface 69 (.pointer (some ⟨p, 0, none⟩)), .iface 69 (.pointer (some ⟨q, 0, none⟩)), .int .u8 1] w (QP true true w) := by
  go_enter Try.func19, Try.ntmps19
  go_wp2_with fail
  go_ret2
  exact ⟨rfl, ⟨0, rfl⟩⟩

set_option maxRecDepth 100000 in
set_option maxHeartbeats 1000000 in
theorem c1_01 (p q : Nat) (w : World) :
    Calls Try.prog 19 #[.iface 69 (.pointer (some ⟨p, 0, none⟩)), .iface 70 (.pointer (some ⟨q, 0, none⟩)), .int .u8 1] w (QP false true w) := by
  go_enter Try.func19, Try.ntmps19
  go_wp2_with fail
  go_ret2
  exact ⟨rfl, ⟨0, rfl⟩⟩

set_option maxRecDepth 100000 in
set_option maxHeartbeats 1000000 in
theorem c1_02 (p q : Nat) (w : World) :
    Calls Try.prog 19 #[.iface 69 (.pointer (some ⟨p, 0, none⟩)), .iface 72 (.pointer (some ⟨q, 0, none⟩)), .int .u8 1] w (QP false true w) := by
  go_enter Try.func19, Try.ntmps19
  go_wp2_with fail
  refine (prim72 q _).mono ?_
  rintro e w' ⟨rfl, rfl⟩
  go_wp2_with fail
  go_ret2
  exact ⟨rfl, ⟨0, rfl⟩⟩

set_option maxRecDepth 100000 in
set_option maxHeartbeats 1000000 in
theorem c1_03 (p q : Nat) (w : World) :
    Calls Try.prog 19 #[.iface 69 (.pointer (some ⟨p, 0, none⟩)), .iface 75 (.pointer (some ⟨q, 0, none⟩)), .int .u8 1] w (QP false true w) := by
  go_enter Try.func19, Try.ntmps19
  go_wp2_with fail
  refine (prim75 q _).mono ?_
  rintro e w' ⟨rfl, rfl⟩
  go_wp2_with fail
  go_ret2
  exact ⟨rfl, ⟨0, rfl⟩⟩

set_option maxRecDepth 100000 in
set_option maxHeartbeats 1000000 in
theorem c1_04 (p q : Nat) (w : World) :
    Calls Try.prog 19 #[.iface 69 (.pointer (some ⟨p, 0, none⟩)), .iface 78 (.pointer (some ⟨q, 0, none⟩)), .int .u8 1] w (QP false true w) := by
  go_enter Try.func19, Try.ntmps19
  go_wp2_with fail
  refine (prim78 q _).mono ?_
  rintro e w' ⟨rfl, rfl⟩
  go_wp2_with fail
  go_ret2
  exact ⟨rfl, ⟨0, rfl⟩⟩

set_option maxRecDepth 100000 in
set_option maxHeartbeats 1000000 in
theorem c1_05 (p q : Nat) (w : World) :
    Calls Try.prog 19 #[.iface 69 (.pointer (some ⟨p, 0, none⟩)), .iface 82 (.pointer (some ⟨q, 0, none⟩)), .int .u8 1] w (QP false true w) := by
  go_enter Try.func19, Try.ntmps19
  go_wp2_with fail
  refine (prim82 q _).mono ?_
  rintro e w' ⟨rfl, rfl⟩
  go_wp2_with fail
  go_ret2
  exact ⟨rfl, ⟨0, rfl⟩⟩

set_option maxRecDepth 100000 in
set_option maxHeartbeats 1000000 in
theorem c1_10 (p q : Nat) (w : World) :
    Calls Try.prog 19 #[.iface 70 (.pointer (some ⟨p, 0, none⟩)), .iface 69 (.pointer (some ⟨q, 0, none⟩)), .int .u8 1] w (QP false true w) := by
  go_enter Try.func19, Try.ntmps19
  go_wp2_with fail
  go_ret2
  exact ⟨rfl, ⟨0, rfl⟩⟩

set_option maxRecDepth 100000 in
set_option maxHeartbeats 1000000 in
theorem c1_11 (p q : Nat) (w : World) :
    Calls Try.prog 19 #[.iface 70 (.pointer (some ⟨p, 0, none⟩)), .iface 70 (.pointer (some ⟨q, 0, none⟩)), .int .u8 1] w (QP true true w) := by
  go_enter Try.func19, Try.ntmps19
  go_wp2_with fail
  go_ret2
  exact ⟨rfl, ⟨0, rfl⟩⟩

set_option maxRecDepth 100000 in
set_option maxHeartbeats 1000000 in
theorem c1_12 (p q : Nat) (w : World) :
    Calls Try.prog 19 #[.iface 70 (.pointer (some ⟨p, 0, none⟩)), .iface 72 (.pointer (some ⟨q, 0, none⟩)), .int .u8 1] w (QP false true w) := by
  go_enter Try.func19, Try.ntmps19
  go_wp2_with fail
  refine (prim72 q _).mono ?_
  rintro e w' ⟨rfl, rfl⟩
  go_wp2_with fail
  go_ret2
  exact ⟨rfl, ⟨0, rfl⟩⟩

set_option maxRecDepth 100000 in
set_option maxHeartbeats 1000000 in
theorem c1_13 (p q : Nat) (w : World) :
    Calls Try.prog 19 #[.iface 70 (.pointer (some ⟨p, 0, none⟩)), .iface 75 (.pointer (some ⟨q, 0, none⟩)), .int .u8 1] w (QP false true w) := by
  go_enter Try.func19, Try.ntmps19
  go_wp2_with fail
  refine (prim75 q _).mono ?_
  rintro e w' ⟨rfl, rfl⟩
  go_wp2_with fail
  go_ret2
  exact ⟨rfl, ⟨0, rfl⟩⟩

set_option maxRecDepth 100000 in
set_option maxHeartbeats 1000000 in
theorem c1_14 (p q : Nat) (w : World) :
    Calls Try.prog 19 #[.iface 70 (.pointer (some ⟨p, 0, none⟩)), .iface 78 (.pointer (some ⟨q, 0, none⟩)), .int .u8 1] w (QP false true w) := by
  go_enter Try.func19, Try.ntmps19
  go_wp2_with fail
  refine (prim78 q _).mono ?_
  rintro e w' ⟨rfl, rfl⟩
  go_wp2_with fail
  go_ret2
  exact ⟨rfl, ⟨0, rfl⟩⟩

set_option maxRecDepth 100000 in
set_option maxHeartbeats 1000000 in
theorem c1_15 (p q : Nat) (w : World) :
    Calls Try.prog 19 #[.iface 70 (.pointer (some ⟨p, 0, none⟩)), .iface 82 (.pointer (some ⟨q, 0, none⟩)), .int .u8 1] w (QP false true w) := by
  go_enter Try.func19, Try.ntmps19
  go_wp2_with fail
  refine (prim82 q _).mono ?_
  rintro e w' ⟨rfl, rfl⟩
  go_wp2_with fail
  go_ret2
  exact ⟨rfl, ⟨0, rfl⟩⟩

set_option maxRecDepth 100000 in
set_option maxHeartbeats 1000000 in
theorem c1_20 (p q : Nat) (w : World) :
    Calls Try.prog 19 #[.iface 72 (.pointer (some ⟨p, 0, none⟩)), .iface 69 (.pointer (some ⟨q, 0, none⟩)), .int .u8 1] w (QP false true w) := by
  go_enter Try.func19, Try.ntmps19
  go_wp2_with fail
  go_ret2
  exact ⟨rfl, ⟨0, rfl⟩⟩

set_option maxRecDepth 100000 in
set_option maxHeartbeats 1000000 in
theorem c1_21 (p q : Nat) (w : World) :
    Calls Try.prog 19 #[.iface 72 (.pointer (some ⟨p, 0, none⟩)), .iface 70 (.pointer (some ⟨q, 0, none⟩)), .int .u8 1] w (QP false true w) := by
  go_enter Try.func19, Try.ntmps19
  go_wp2_with fail
  go_ret2
  exact ⟨rfl, ⟨0, rfl⟩⟩

set_option maxRecDepth 100000 in
set_option maxHeartbeats 1000000 in
theorem c1_22 (p q : Nat) (b b' : Bool) (w : World) (h1 : w.cell? ⟨p, 0, none⟩ = some (.bool b)) (h2 : w.cell? ⟨q, 0, none⟩ = some (.bool b')) :
    Calls Try.prog 19 #[.iface 72 (.pointer (some ⟨p, 0, none⟩)), .iface 72 (.pointer (some ⟨q, 0, none⟩)), .int .u8 1] w (QP (b == b') true w) := by
  have lp : p < w.heap.size := World.block_lt_of_cell? _ _ h1
  have lq : q < w.heap.size := World.block_lt_of_cell? _ _ h2
  go_enter Try.func19, Try.ntmps19
  go_wp2_with fail
  go_quiet (fail)
  go_wp2_with fail
  go_ret2
  exact ⟨rfl, ⟨_, rfl⟩⟩

set_option maxRecDepth 100000 in
set_option maxHeartbeats 1000000 in
theorem c1_23 (p q : Nat) (w : World) :
    Calls Try.prog 19 #[.iface 72 (.pointer (some ⟨p, 0, none⟩)), .iface 75 (.pointer (some ⟨q, 0, none⟩)), .int .u8 1] w (QP false true w) := by
  go_enter Try.func19, Try.ntmps19
  go_wp2_with fail
  go_ret2
  exact ⟨rfl, ⟨0, rfl⟩⟩

set_option maxRecDepth 100000 in
set_option maxHeartbeats 1000000 in
theorem c1_24 (p q : Nat) (w : World) :
    Calls Try.prog 19 #[.iface 72 (.pointer (some ⟨p, 0, none⟩)), .iface 78 (.pointer (some ⟨q, 0, none⟩)), .int .u8 1] w (QP false true w) := by
  go_enter Try.func19, Try.ntmps19
  go_wp2_with fail
  refine (prim78 q _).mono ?_
  rintro e w' ⟨rfl, rfl⟩
  go_wp2_with fail
  go_ret2
  exact ⟨rfl, ⟨0, rfl⟩⟩

set_option maxRecDepth 100000 in
set_option maxHeartbeats 1000000 in
theorem c1_25 (p q : Nat) (w : World) :
    Calls Try.prog 19 #[.iface 72 (.pointer (some ⟨p, 0, none⟩)), .iface 82 (.pointer (some ⟨q, 0, none⟩)), .int .u8 1] w (QP false true w) := by
  go_enter Try.func19, Try.ntmps19
  go_wp2_with fail
  refine (prim82 q _).mono ?_
  rintro e w' ⟨rfl, rfl⟩
  go_wp2_with fail
  go_ret2
  exact ⟨rfl, ⟨0, rfl⟩⟩

set_option maxRecDepth 100000 in
set_option maxHeartbeats 1000000 in
theorem c1_30 (p q : Nat) (w : World) :
    Calls Try.prog 19 #[.iface 75 (.pointer (some ⟨p, 0, none⟩)), .iface 69 (.pointer (some ⟨q, 0, none⟩)), .int .u8 1] w (QP false true w) := by
  go_enter Try.func19, Try.ntmps19
  go_wp2_with fail
  go_ret2
  exact ⟨rfl, ⟨0, rfl⟩⟩

set_option maxRecDepth 100000 in
set_option maxHeartbeats 1000000 in
theorem c1_31 (p q : Nat) (w : World) :
    Calls Try.prog 19 #[.iface 75 (.pointer (some ⟨p, 0, none⟩)), .iface 70 (.pointer (some ⟨q, 0, none⟩)), .int .u8 1] w (QP false true w) := by
  go_enter Try.func19, Try.ntmps19
  go_wp2_with fail
  go_ret2
  exact ⟨rfl, ⟨0, rfl⟩⟩

set_option maxRecDepth 100000 in
set_option maxHeartbeats 1000000 in
theorem c1_32 (p q : Nat) (w : World) :
    Calls Try.prog 19 #[.iface 75 (.pointer (some ⟨p, 0, none⟩)), .iface 72 (.pointer (some ⟨q, 0, none⟩)), .int .u8 1] w (QP false true w) := by
  go_enter Try.func19, Try.ntmps19
  go_wp2_with fail
  go_ret2
  exact ⟨rfl, ⟨0, rfl⟩⟩

set_option maxRecDepth 100000 in
set_option maxHeartbeats 1000000 in
theorem c1_33 (p q : Nat) (x x' : Nat) (w : World) (h1 : w.cell? ⟨p, 0, none⟩ = some (.float .f64 x)) (h2 : w.cell? ⟨q, 0, none⟩ = some (.float .f64 x')) :
    Calls Try.prog 19 #[.iface 75 (.pointer (some ⟨p, 0, none⟩)), .iface 75 (.pointer (some ⟨q, 0, none⟩)), .int .u8 1] w (QP (FloatKind.f64.format.order x x' == some .eq) true w) := by
  have lp : p < w.heap.size := World.block_lt_of_cell? _ _ h1
  have lq : q < w.heap.size := World.block_lt_of_cell? _ _ h2
  go_enter Try.func19, Try.ntmps19
  go_wp2_with fail
  go_quiet (fail)
  go_wp2_with fail
  go_ret2
  exact ⟨rfl, ⟨_, rfl⟩⟩

set_option maxRecDepth 100000 in
set_option maxHeartbeats 1000000 in
theorem c1_34 (p q : Nat) (w : World) :
    Calls Try.prog 19 #[.iface 75 (.pointer (some ⟨p, 0, none⟩)), .iface 78 (.pointer (some ⟨q, 0, none⟩)), .int .u8 1] w (QP false true w) := by
  go_enter Try.func19, Try.ntmps19
  go_wp2_with fail
  refine (prim78 q _).mono ?_
  rintro e w' ⟨rfl, rfl⟩
  go_wp2_with fail
  go_ret2
  exact ⟨rfl, ⟨0, rfl⟩⟩

set_option maxRecDepth 100000 in
set_option maxHeartbeats 1000000 in
theorem c1_35 (p q : Nat) (w : World) :
    Calls Try.prog 19 #[.iface 75 (.pointer (some ⟨p, 0, none⟩)), .iface 82 (.pointer (some ⟨q, 0, none⟩)), .int .u8 1] w (QP false true w) := by
  go_enter Try.func19, Try.ntmps19
  go_wp2_with fail
  refine (prim82 q _).mono ?_
  rintro e w' ⟨rfl, rfl⟩
  go_wp2_with fail
  go_ret2
  exact ⟨rfl, ⟨0, rfl⟩⟩

set_option maxRecDepth 100000 in
set_option maxHeartbeats 1000000 in
theorem c1_40 (p q : Nat) (w : World) :
    Calls Try.prog 19 #[.iface 78 (.pointer (some ⟨p, 0, none⟩)), .iface 69 (.pointer (some ⟨q, 0, none⟩)), .int .u8 1] w (QP false true w) := by
  go_enter Try.func19, Try.ntmps19
  go_wp2_with fail
  go_ret2
  exact ⟨rfl, ⟨0, rfl⟩⟩

set_option maxRecDepth 100000 in
set_option maxHeartbeats 1000000 in
theorem c1_41 (p q : Nat) (w : World) :
    Calls Try.prog 19 #[.iface 78 (.pointer (some ⟨p, 0, none⟩)), .iface 70 (.pointer (some ⟨q, 0, none⟩)), .int .u8 1] w (QP false true w) := by
  go_enter Try.func19, Try.ntmps19
  go_wp2_with fail
  go_ret2
  exact ⟨rfl, ⟨0, rfl⟩⟩

set_option maxRecDepth 100000 in
set_option maxHeartbeats 1000000 in
theorem c1_42 (p q : Nat) (w : World) :
    Calls Try.prog 19 #[.iface 78 (.pointer (some ⟨p, 0, none⟩)), .iface 72 (.pointer (some ⟨q, 0, none⟩)), .int .u8 1] w (QP false true w) := by
  go_enter Try.func19, Try.ntmps19
  go_wp2_with fail
  refine (prim72 q _).mono ?_
  rintro e w' ⟨rfl, rfl⟩
  go_wp2_with fail
  go_ret2
  exact ⟨rfl, ⟨0, rfl⟩⟩

set_option maxRecDepth 100000 in
set_option maxHeartbeats 1000000 in
theorem c1_43 (p q : Nat) (w : World) :
    Calls Try.prog 19 #[.iface 78 (.pointer (some ⟨p, 0, none⟩)), .iface 75 (.pointer (some ⟨q, 0, none⟩)), .int .u8 1] w (QP false true w) := by
  go_enter Try.func19, Try.ntmps19
  go_wp2_with fail
  refine (prim75 q _).mono ?_
  rintro e w' ⟨rfl, rfl⟩
  go_wp2_with fail
  go_ret2
  exact ⟨rfl, ⟨0, rfl⟩⟩

set_option maxRecDepth 100000 in
set_option maxHeartbeats 1000000 in
theorem c1_44 (p q : Nat) (s s' : ByteArray) (w : World) (h1 : w.cell? ⟨p, 0, none⟩ = some (.string s)) (h2 : w.cell? ⟨q, 0, none⟩ = some (.string s')) (m1 : s.size ≤ 1048576) (m2 : s'.size ≤ 1048576) :
    Calls Try.prog 19 #[.iface 78 (.pointer (some ⟨p, 0, none⟩)), .iface 78 (.pointer (some ⟨q, 0, none⟩)), .int .u8 1] w (QP (s.toList == s'.toList) ((s.toList == s'.toList) || (canon s && canon s')) w) := by
  have lp : p < w.heap.size := World.block_lt_of_cell? _ _ h1
  have lq : q < w.heap.size := World.block_lt_of_cell? _ _ h2
  have HC := Lib.hid (fun W : World => big_any s s' W m1 m2)
  obtain ⟨g, hg⟩ : ∃ g, g = (s.toList == s'.toList) := ⟨_, rfl⟩
  obtain ⟨g', hg'⟩ : ∃ g', g' = (g || (canon s && canon s')) := ⟨_, rfl⟩
  rw [← hg, ← hg']
  have HC' := Lib.hid (show ∀ W : World, Calls Try.prog 40 #[.string s, .string s'] W (QP g g' W) from fun W => by rw [hg', hg]; exact HC.out W)
  clear hg hg' HC
  go_enter Try.func19, Try.ntmps19
  go_wp2_with fail
  go_quiet ((go_at_call 40; exact Calls.quiet_of (HC'.out _)))
  go_wp2_with fail
  go_ret2
  exact ⟨rfl, ⟨_, rfl⟩⟩

set_option maxRecDepth 100000 in
set_option maxHeartbeats 1000000 in
theorem c1_45 (p q : Nat) (w : World) :
    Calls Try.prog 19 #[.iface 78 (.pointer (some ⟨p, 0, none⟩)), .iface 82 (.pointer (some ⟨q, 0, none⟩)), .int .u8 1] w (QP false true w) := by
  go_enter Try.func19, Try.ntmps19
  go_wp2_with fail
  refine (prim82 q _).mono ?_
  rintro e w' ⟨rfl, rfl⟩
  go_wp2_with fail
  go_ret2
  exact ⟨rfl, ⟨0, rfl⟩⟩

set_option maxRecDepth 100000 in
set_option maxHeartbeats 1000000 in
theorem c1_50 (p q : Nat) (w : World) :
    Calls Try.prog 19 #[.iface 82 (.pointer (some ⟨p, 0, none⟩)), .iface 69 (.pointer (some ⟨q, 0, none⟩)), .int .u8 1] w (QP false true w) := by
  go_enter Try.func19, Try.ntmps19
  go_wp2_with fail
  go_ret2
  exact ⟨rfl, ⟨0, rfl⟩⟩

set_option maxRecDepth 100000 in
set_option maxHeartbeats 1000000 in
theorem c1_51 (p q : Nat) (w : World) :
    Calls Try.prog 19 #[.iface 82 (.pointer (some ⟨p, 0, none⟩)), .iface 70 (.pointer (some ⟨q, 0, none⟩)), .int .u8 1] w (QP false true w) := by
  go_enter Try.func19, Try.ntmps19
  go_wp2_with fail
  go_ret2
  exact ⟨rfl, ⟨0, rfl⟩⟩

set_option maxRecDepth 100000 in
set_option maxHeartbeats 1000000 in
theorem c1_52 (p q : Nat) (w : World) :
    Calls Try.prog 19 #[.iface 82 (.pointer (some ⟨p, 0, none⟩)), .iface 72 (.pointer (some ⟨q, 0, none⟩)), .int .u8 1] w (QP false true w) := by
  go_enter Try.func19, Try.ntmps19
  go_wp2_with fail
  refine (prim72 q _).mono ?_
  rintro e w' ⟨rfl, rfl⟩
  go_wp2_with fail
  go_ret2
  exact ⟨rfl, ⟨0, rfl⟩⟩

set_option maxRecDepth 100000 in
set_option maxHeartbeats 1000000 in
theorem c1_53 (p q : Nat) (w : World) :
    Calls Try.prog 19 #[.iface 82 (.pointer (some ⟨p, 0, none⟩)), .iface 75 (.pointer (some ⟨q, 0, none⟩)), .int .u8 1] w (QP false true w) := by
  go_enter Try.func19, Try.ntmps19
  go_wp2_with fail
  refine (prim75 q _).mono ?_
  rintro e w' ⟨rfl, rfl⟩
  go_wp2_with fail
  go_ret2
  exact ⟨rfl, ⟨0, rfl⟩⟩

set_option maxRecDepth 100000 in
set_option maxHeartbeats 1000000 in
theorem c1_54 (p q : Nat) (w : World) :
    Calls Try.prog 19 #[.iface 82 (.pointer (some ⟨p, 0, none⟩)), .iface 78 (.pointer (some ⟨q, 0, none⟩)), .int .u8 1] w (QP false true w) := by
  go_enter Try.func19, Try.ntmps19
  go_wp2_with fail
  refine (prim78 q _).mono ?_
  rintro e w' ⟨rfl, rfl⟩
  go_wp2_with fail
  go_ret2
  exact ⟨rfl, ⟨0, rfl⟩⟩

set_option maxRecDepth 100000 in
set_option maxHeartbeats 1000000 in
theorem c1_55 (p q : Nat) (a a' : Option Addr) (n n' c c' : Nat) (zs zs' : List Int) (w : World) (h1 : w.cell? ⟨p, 0, none⟩ = some (.slice a n c)) (h2 : w.cell? ⟨q, 0, none⟩ = some (.slice a' n' c')) (r1 : RowV w a n (fun i => .int .u16 (uAt zs i))) (r2 : RowV w a' n' (fun i => .int .u16 (uAt zs' i))) (m1 : n ≤ 1048576) (m2 : n' ≤ 1048576) :
    Calls Try.prog 19 #[.iface 82 (.pointer (some ⟨p, 0, none⟩)), .iface 82 (.pointer (some ⟨q, 0, none⟩)), .int .u8 1] w (QP (ueq n n' zs zs') true w) := by
  have lp : p < w.heap.size := World.block_lt_of_cell? _ _ h1
  have lq : q < w.heap.size := World.block_lt_of_cell? _ _ h2
  have HC := Lib.hid (show ∀ W, Below w.heap.size w W → Calls Try.prog 41 #[.slice a n c, .slice a' n' c'] W (BPostQ (ueq n n' zs zs') W) from fun W hW => u41 a a' n n' c c' zs zs' W (r1.below hW) (r2.below hW) m1 m2)
  clear r1 r2
  obtain ⟨g, hg⟩ : ∃ g, g = ueq n n' zs zs' := ⟨_, rfl⟩
  rw [← hg] at HC ⊢
  clear hg
  go_enter Try.func19, Try.ntmps19
  go_wp2_with fail
  go_quiet ((go_at_call 41; exact Calls.quiet_of (HC.out _ (below_drewN (Below.refl _ _) _))))
  go_wp2_with fail
  go_ret2
  exact ⟨rfl, ⟨_, rfl⟩⟩
end Go.Proofs.Ytgghakmfcodojaa.Cq
