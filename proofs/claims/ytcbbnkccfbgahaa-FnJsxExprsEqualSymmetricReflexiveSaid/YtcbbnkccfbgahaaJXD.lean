/- Proved here: contracts of jsxExprsEqual and of zzDefine. Conditions: the cells as stated. -/
import Derived.Test.YtcbbnkccfbgahaaJXC
import Derived.WalkKit
import Derived.WalkSpells
import Derived.WalkLawsBesides
import Derived.Lib.Hide
import Derived.Lib.SliceRun
import Derived.Deep.RegionWith
namespace Go.Proofs.Ytcbbnkccfbgahaa
open Go.RowKit
set_option linter.unusedSimpArgs false
set_option linter.unusedVariables false

theorem ba (w : World) (o : Obj) : Below w.heap.size w (w.alloc o) := (Below.refl _ _).alloc (Nat.le_refl _) _
def JPost (k1 k2 n m : Nat) (zs ys : List ByteArray) (w : World) (e : Ending) (w' : World) : Prop :=
  ∃ g : Bool, e = .returned (.bool g) ∧ (g = true ↔ StrEq n m zs ys ∧ k1 = k2) ∧ Below w.heap.size w w'
theorem CV.zero {w : World} {k : Nat} {v : Value} (h : CV w k v) : (k = 0 ∧ v = .nilIface) ∨ (1 ≤ k ∧ ∃ t p, v = .iface t p) := by
  rcases h with ⟨rfl, rfl⟩ | ⟨rfl, p, rfl⟩ | ⟨rfl, p, rfl⟩ | ⟨b, g, rfl, rfl, c1⟩
  · exact .inl ⟨rfl, rfl⟩
  · exact .inr ⟨by omega, _, _, rfl⟩
  · exact .inr ⟨by omega, _, _, rfl⟩
  · exact .inr ⟨by cases b <;> simp, _, _, rfl⟩
set_option maxRecDepth 100000 in
set_option maxHeartbeats 4000000 in
theorem jeq_any (k1 k2 n m c d : Nat) (a b : Option Addr) (v1 v2 : Value) (x y : Int) (zs ys : List ByteArray) (w : World) (h1 : CV w k1 v1) (h2 : CV w k2 v2) (r1 : RowV w a n (fun i => .string (sAt zs i))) (r2 : RowV w b m (fun i => .string (sAt ys i))) (hn : n ≤ 1048576) (hm : m ≤ 1048576) :
    Calls Try.prog 38 #[.agg #[v1, .slice a n c, .int .u32 x], .agg #[v2, .slice b m d, .int .u32 y]] w (JPost k1 k2 n m zs ys w) := by
  have V := Lib.hid (show 1 ≤ k1 → 1 ≤ k2 → ∀ W, Below w.heap.size w W → Calls Try.prog 49 #[v1, v2] W (OneB (decide (k1 = k2)) W) from fun n1 n2 W hW => vls_any k1 k2 v1 v2 W (h1.below hW) (h2.below hW) n1 n2)
  have Z1 := Lib.hid h1.zero
  have Z2 := Lib.hid h2.zero
  have R1 := Lib.hid r1
  have R2 := Lib.hid r2
  clear h1 h2 r1 r2
  rcases Z1.out with ⟨rfl, rfl⟩ | ⟨n1, t1, p1, rfl⟩
  · rcases Z2.out with ⟨rfl, rfl⟩ | ⟨n2, t2, p2, rfl⟩
    · clear Z1 Z2
      go_enter Try.func38, Try.ntmps38
      go_wp2_with fail
      have B2 := Lib.hid (show Below w.heap.size w ((w.alloc (.cells #[.nilIface, .slice a n c, .int .u32 x] 32)).alloc (.cells #[.nilIface, .slice b m d, .int .u32 y] 32)) from bel2 (ba w _) (ba _ _))
      refine (sae_any _ _ n m _ _ zs ys _ (R1.out.below B2.out) (R2.out.below B2.out) hn hm).mono ?_
      rintro e w3 ⟨g, rfl, hg, hb⟩
      have HG := Lib.hid hg
      have B3 := Lib.hid (bel2 B2.out hb)
      have c0 := kept hb (show ((w.alloc (.cells #[.nilIface, .slice a n c, .int .u32 x] 32)).alloc (.cells #[.nilIface, .slice b m d, .int .u32 y] 32)).cell? ⟨w.heap.size, 0, none⟩ = some (.nilIface) by go_simp)
      have c1 := kept hb (show ((w.alloc (.cells #[.nilIface, .slice a n c, .int .u32 x] 32)).alloc (.cells #[.nilIface, .slice b m d, .int .u32 y] 32)).cell? ⟨w.heap.size + 1, 0, none⟩ = some (.nilIface) by go_simp)
      clear hg hb B2 R1 R2
      cases g
      · have NS := Lib.hid (show ¬ StrEq n m zs ys from fun h => by have := HG.out.2 h; cases this)
        clear HG
        go_wp2_with fail
        go_ret
        exact ⟨false, rfl, by simp [NS.out], B3.out⟩
      · have YS := Lib.hid (HG.out.1 rfl)
        clear HG
        clear V
        go_wp2_with fail
        go_ret
        exact ⟨true, rfl, by simp [YS.out], B3.out⟩
    · clear Z1 Z2
      go_enter Try.func38, Try.ntmps38
      go_wp2_with fail
      have B2 := Lib.hid (show Below w.heap.size w ((w.alloc (.cells #[.nilIface, .slice a n c, .int .u32 x] 32)).alloc (.cells #[.iface t2 p2, .slice b m d, .int .u32 y] 32)) from bel2 (ba w _) (ba _ _))
      refine (sae_any _ _ n m _ _ zs ys _ (R1.out.below B2.out) (R2.out.below B2.out) hn hm).mono ?_
      rintro e w3 ⟨g, rfl, hg, hb⟩
      have HG := Lib.hid hg
      have B3 := Lib.hid (bel2 B2.out hb)
      have c0 := kept hb (show ((w.alloc (.cells #[.nilIface, .slice a n c, .int .u32 x] 32)).alloc (.cells #[.iface t2 p2, .slice b m d, .int .u32 y] 32)).cell? ⟨w.heap.size, 0, none⟩ = some (.nilIface) by go_simp)
      have c1 := kept hb (show ((w.alloc (.cells #[.nilIface, .slice a n c, .int .u32 x] 32)).alloc (.cells #[.iface t2 p2, .slice b m d, .int .u32 y] 32)).cell? ⟨w.heap.size + 1, 0, none⟩ = some (.iface t2 p2) by go_simp)
      clear hg hb B2 R1 R2
      cases g
      · have NS := Lib.hid (show ¬ StrEq n m zs ys from fun h => by have := HG.out.2 h; cases this)
        clear HG
        go_wp2_with fail
        go_ret
        exact ⟨false, rfl, by simp [NS.out], B3.out⟩
      · have YS := Lib.hid (HG.out.1 rfl)
        clear HG
        clear V
        go_wp2_with fail
        go_ret
        exact ⟨false, rfl, by simp [YS.out] <;> omega, B3.out⟩
  · rcases Z2.out with ⟨rfl, rfl⟩ | ⟨n2, t2, p2, rfl⟩
    · clear Z1 Z2
      go_enter Try.func38, Try.ntmps38
      go_wp2_with fail
      have B2 := Lib.hid (show Below w.heap.size w ((w.alloc (.cells #[.iface t1 p1, .slice a n c, .int .u32 x] 32)).alloc (.cells #[.nilIface, .slice b m d, .int .u32 y] 32)) from bel2 (ba w _) (ba _ _))
      refine (sae_any _ _ n m _ _ zs ys _ (R1.out.below B2.out) (R2.out.below B2.out) hn hm).mono ?_
      rintro e w3 ⟨g, rfl, hg, hb⟩
      have HG := Lib.hid hg
      have B3 := Lib.hid (bel2 B2.out hb)
      have c0 := kept hb (show ((w.alloc (.cells #[.iface t1 p1, .slice a n c, .int .u32 x] 32)).alloc (.cells #[.nilIface, .slice b m d, .int .u32 y] 32)).cell? ⟨w.heap.size, 0, none⟩ = some (.iface t1 p1) by go_simp)
      have c1 := kept hb (show ((w.alloc (.cells #[.iface t1 p1, .slice a n c, .int .u32 x] 32)).alloc (.cells #[.nilIface, .slice b m d, .int .u32 y] 32)).cell? ⟨w.heap.size + 1, 0, none⟩ = some (.nilIface) by go_simp)
      clear hg hb B2 R1 R2
      cases g
      · have NS := Lib.hid (show ¬ StrEq n m zs ys from fun h => by have := HG.out.2 h; cases this)
        clear HG
        go_wp2_with fail
        go_ret
        exact ⟨false, rfl, by simp [NS.out], B3.out⟩
      · have YS := Lib.hid (HG.out.1 rfl)
        clear HG
        clear V
        go_wp2_with fail
        go_ret
        exact ⟨false, rfl, by simp [YS.out] <;> omega, B3.out⟩
    · clear Z1 Z2
      go_enter Try.func38, Try.ntmps38
      go_wp2_with fail
      have B2 := Lib.hid (show Below w.heap.size w ((w.alloc (.cells #[.iface t1 p1, .slice a n c, .int .u32 x] 32)).alloc (.cells #[.iface t2 p2, .slice b m d, .int .u32 y] 32)) from bel2 (ba w _) (ba _ _))
      refine (sae_any _ _ n m _ _ zs ys _ (R1.out.below B2.out) (R2.out.below B2.out) hn hm).mono ?_
      rintro e w3 ⟨g, rfl, hg, hb⟩
      have HG := Lib.hid hg
      have B3 := Lib.hid (bel2 B2.out hb)
      have c0 := kept hb (show ((w.alloc (.cells #[.iface t1 p1, .slice a n c, .int .u32 x] 32)).alloc (.cells #[.iface t2 p2, .slice b m d, .int .u32 y] 32)).cell? ⟨w.heap.size, 0, none⟩ = some (.iface t1 p1) by go_simp)
      have c1 := kept hb (show ((w.alloc (.cells #[.iface t1 p1, .slice a n c, .int .u32 x] 32)).alloc (.cells #[.iface t2 p2, .slice b m d, .int .u32 y] 32)).cell? ⟨w.heap.size + 1, 0, none⟩ = some (.iface t2 p2) by go_simp)
      clear hg hb B2 R1 R2
      cases g
      · have NS := Lib.hid (show ¬ StrEq n m zs ys from fun h => by have := HG.out.2 h; cases this)
        clear HG
        go_wp2_with fail
        go_ret
        exact ⟨false, rfl, by simp [NS.out], B3.out⟩
      · have YS := Lib.hid (HG.out.1 rfl)
        clear HG
        have VC := Lib.hid (V.out n1 n2 w3 B3.out)
        clear V
        go_wp2_with fail
        refine VC.out.mono ?_
        rintro e w4 ⟨rfl, hb4⟩
        obtain ⟨q, hq⟩ : ∃ q, q = decide (k1 = k2) := ⟨_, rfl⟩
        rw [← hq]
        have HQ := Lib.hid hq
        clear hq VC
        cases q
        · have NK := Lib.hid (show ¬ k1 = k2 from of_decide_eq_false HQ.out.symm)
          clear HQ
          go_wp2_with fail
          go_ret
          exact ⟨false, rfl, by simp [NK.out], bel2 B3.out hb4⟩
        · have YK := Lib.hid (show k1 = k2 from of_decide_eq_true HQ.out.symm)
          clear HQ
          go_wp2_with fail
          go_ret
          exact ⟨true, rfl, by simp [YS.out, YK.out], bel2 B3.out hb4⟩
end Go.Proofs.Ytcbbnkccfbgahaa
