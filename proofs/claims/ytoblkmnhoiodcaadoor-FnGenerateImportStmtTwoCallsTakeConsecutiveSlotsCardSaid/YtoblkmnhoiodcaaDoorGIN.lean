/- Proved here: the new parser, the readers of its tables, the wrapper. Conditions as stated. -/
import Derived.Test.YtoblkmnhoiodcaaDoorGIK
import Derived.WalkKit
import Derived.WalkSpells
import Derived.WalkLawsBesides
import Derived.Lib.Hide
import Derived.Lib.SliceRun
import Derived.Deep.RegionWith
import Derived.OwnWalk
import Derived.Laws.OwnMore
import Derived.BigRegion
import Derived.BigQuiet
import Derived.WideMake
import Derived.Deep.DeepCutAuto
import Derived.Deep.CutBlock
import Derived.Deep.CutRange
import Derived.MapKept
namespace Go.Proofs.YtoblkmnhoiodcaaDoor
open Go.RowKit
set_option linter.unusedSimpArgs false
set_option linter.unusedVariables false
namespace GI
open IM IB

noncomputable def pz : Array Value := zeroOf Tryd.prog 195
theorem pz_size : pz.size = 353 := by kernel_rfl
attribute [local go_sem] pz_size
theorem wpList_run0 {P : Program} {ops : Array Oper} {rest : List Oper} {o : Oper} {a : Act} {w : World} {Q : Exit → Act → World → Prop} (hgd : o.guard = none) (v : Value)
    (hr : (execOp a.eval o).run P w = .ok (.value v) w) (h : wpList P ops Q rest (a.put o.dst v) w) : wpList P ops Q (o :: rest) a w := wpList_run hgd v w hr h
def scz : Array Value := #[.pointer none, .pointer none, .slice none 0 0, .map none, .slice none 0 0, .slice none 0 0, .int .i32 0, .int .i32 0, .int .u32 4294967295, .int .u32 4294967295, .bool false, .bool false, .bool false, .bool false, .int .u8 0, .int .u8 0]
def NPP (B n : Nat) (xs : List Value) (w : World) (e : Ending) (w' : World) : Prop :=
  ∃ pb sb mi mn, e = .returned (.pointer (some ⟨pb, 0, none⟩)) ∧ GS w' B pb sb mi mn n xs 0 [] 0 [] [] [] ∧ Below w.heap.size w w' ∧ w.heap.size ≤ pb ∧ w.heap.size ≤ sb ∧ w.heap.size ≤ mi ∧ w.heap.size ≤ mn
theorem newPpost {B n : Nat} {a : Option Addr} {c : Nat} {xs : List Value} {w : World} (hown : w.ownsRow B 77 15 (.slice a n c) n xs) (hB : B ≤ w.heap.size) (l0 : 0 < w.heap.size) :
    NPP B n xs w (.returned (.pointer (some ⟨w.heap.size, 0, none⟩))) ((((w.alloc (.cells ((((pz.setIfInBounds 169 (.slice a n c)).setIfInBounds 172 (.map (some (w.heap.size + 1)))).setIfInBounds 173 (.map (some (w.heap.size + 1 + 1)))).setIfInBounds 187 (.pointer (some ⟨w.heap.size + 1 + 1 + 1, 0, none⟩))) 195)).alloc (.map #[] 0)).alloc (.map #[] 0)).alloc (.cells scz 202)) := by
  obtain ⟨PZ, hPZ⟩ : ∃ PZ, PZ = (((pz.setIfInBounds 169 (.slice a n c)).setIfInBounds 172 (.map (some (w.heap.size + 1)))).setIfInBounds 173 (.map (some (w.heap.size + 1 + 1)))).setIfInBounds 187 (.pointer (some ⟨w.heap.size + 1 + 1 + 1, 0, none⟩)) := ⟨_, rfl⟩
  have p169 : PZ[169]? = some (.slice a n c) := by rw [hPZ]; simp [Array.getElem?_setIfInBounds, pz_size]
  have p172 : PZ[172]? = some (.map (some (w.heap.size + 1))) := by rw [hPZ]; simp [Array.getElem?_setIfInBounds, pz_size]
  have p173 : PZ[173]? = some (.map (some (w.heap.size + 1 + 1))) := by rw [hPZ]; simp [Array.getElem?_setIfInBounds, pz_size]
  have p187 : PZ[187]? = some (.pointer (some ⟨w.heap.size + 1 + 1 + 1, 0, none⟩)) := by rw [hPZ]; simp [Array.getElem?_setIfInBounds, pz_size]
  have p66 : PZ[66]? = some (.int .u32 0) := by
    rw [hPZ, Array.getElem?_setIfInBounds_ne (by decide), Array.getElem?_setIfInBounds_ne (by decide), Array.getElem?_setIfInBounds_ne (by decide), Array.getElem?_setIfInBounds_ne (by decide)]
    kernel_rfl
  have p32 : PZ[32]? = some (.bool false) := by
    rw [hPZ, Array.getElem?_setIfInBounds_ne (by decide), Array.getElem?_setIfInBounds_ne (by decide), Array.getElem?_setIfInBounds_ne (by decide), Array.getElem?_setIfInBounds_ne (by decide)]
    kernel_rfl
  have p106 : PZ[106]? = some (.slice none 0 0) := by
    rw [hPZ, Array.getElem?_setIfInBounds_ne (by decide), Array.getElem?_setIfInBounds_ne (by decide), Array.getElem?_setIfInBounds_ne (by decide), Array.getElem?_setIfInBounds_ne (by decide)]
    kernel_rfl
  rw [← hPZ]
  clear hPZ
  obtain ⟨V1, hV1⟩ : ∃ V, V = w.alloc (.cells PZ 195) := ⟨_, rfl⟩
  obtain ⟨V2, hV2⟩ : ∃ V, V = V1.alloc (.map #[] 0) := ⟨_, rfl⟩
  obtain ⟨V3, hV3⟩ : ∃ V, V = V2.alloc (.map #[] 0) := ⟨_, rfl⟩
  obtain ⟨V4, hV4⟩ : ∃ V, V = V3.alloc (.cells scz 202) := ⟨_, rfl⟩
  rw [← hV1, ← hV2, ← hV3, ← hV4]
  have z1 : V1.heap.size = w.heap.size + 1 := by rw [hV1]; simp
  have z2 : V2.heap.size = w.heap.size + 1 + 1 := by rw [hV2]; simp [z1]
  have z3 : V3.heap.size = w.heap.size + 1 + 1 + 1 := by rw [hV3]; simp [z2]
  have hb : Below w.heap.size w V4 := by rw [hV4, hV3, hV2, hV1]; exact ((((Below.refl _ _).alloc (Nat.le_refl _) _).alloc (by simp) _).alloc (by simp; omega) _).alloc (by simp; omega) _
  have AP : At V4 w.heap.size 195 PZ := by rw [hV4, hV3, hV2, hV1]; exact (((At.new w 195 PZ).alloc _).alloc _).alloc _
  have M1 : MP mkR V4 (w.heap.size + 1) [] := MP.empty (by
    have h := heap_alloc_new V1 (.map #[] 0)
    rw [z1] at h
    rw [hV4, Below.heap_alloc _ _ _ (by omega), hV3, Below.heap_alloc _ _ _ (by omega), hV2]
    exact h)
  have M2 : MP mkR V4 (w.heap.size + 1 + 1) [] := MP.empty (by
    have h := heap_alloc_new V2 (.map #[] 0)
    rw [z2] at h
    rw [hV4, Below.heap_alloc _ _ _ (by omega), hV3]
    exact h)
  have AS : At V4 (w.heap.size + 1 + 1 + 1) 202 scz := by
    have h := At.new V3 202 scz
    rw [z3] at h
    rw [hV4]; exact h
  refine ⟨w.heap.size, w.heap.size + 1 + 1 + 1, w.heap.size + 1, w.heap.size + 1 + 1, rfl, ⟨⟨a, c, by rw [AP.cell]; exact p169, AP.frozen _, ownKeep hown (fun k cs _ ha => hb.block k ha.lt), fun k hk => by have := (World.ownsRow.lt hown k hk).2; omega⟩, ⟨none, 0, by rw [AP.cell]; exact p66, by rw [AP.cell]; exact p106, AP.frozen _, by rw [AP.cell]; exact p32, World.ownsRow_nil _ _ _ _, fun k hk => by cases hk⟩, by rw [AP.cell]; exact p187, by rw [AP.cell]; exact p172, by rw [AP.cell]; exact p173, ⟨none, 0, scz, AS, rfl, World.ownsRow_nil _ _ _ _, fun k hk => by cases hk⟩, M1, M2, hB, by omega, by omega, by omega, by omega, by omega⟩, hb, Nat.le_refl _, by omega, by omega, by omega⟩
set_option maxRecDepth 100000 in
set_option maxHeartbeats 8000000 in
theorem newP (B n : Nat) (a : Option Addr) (c : Nat) (xs : List Value) (w : World) (hB : B ≤ w.heap.size) (hown : w.ownsRow B 77 15 (.slice a n c) n xs) (hg0 : w.cell? ⟨0, 0, none⟩ = some (.int .u32 4294967295)) (hg1 : w.cell? ⟨0, 1, none⟩ = some (.int .u32 4294967295)) :
    Calls Tryd.prog 10 #[.slice a n c] w (NPP B n xs w) := by
  have l0 : 0 < w.heap.size := World.block_lt_of_cell? _ _ hg0
  have hmm := @run_makeMap Tryd.prog
  have HO := Lib.hid hown
  clear hown
  go_enter Tryd.func10, Tryd.ntmps10
  go_upto_region 1 with (refine wpList_run0 (o := ⟨some 4, .build 195 #[], _, _, _, _⟩) rfl (.agg pz) ?hr ?_; case hr => kernel_rfl)
  go_wp2_with (refine wpList_run0 (o := ⟨some 4, .build 195 #[], _, _, _, _⟩) rfl (.agg pz) ?hr ?_; case hr => kernel_rfl)
  go_ret
  exact newPpost HO.out hB l0

theorem rd12 (pb n c : Nat) (a : Option Addr) (w : World) (h : w.cell? ⟨pb, 169, none⟩ = some (.slice a n c)) : Calls Tryd.prog 12 #[.pointer (some ⟨pb, 0, none⟩)] w fun e w' => e = .returned (.slice a n c) ∧ w = w' := by
  go_enter Tryd.func12, Tryd.ntmps12
  go_wp2_with fail
  go_ret
  exact ⟨rfl, rfl⟩
theorem rd16 (pb n c : Nat) (a : Option Addr) (w : World) (h : w.cell? ⟨pb, 106, none⟩ = some (.slice a n c)) : Calls Tryd.prog 16 #[.pointer (some ⟨pb, 0, none⟩)] w fun e w' => e = .returned (.slice a n c) ∧ w = w' := by
  go_enter Tryd.func16, Tryd.ntmps16
  go_wp2_with fail
  go_ret
  exact ⟨rfl, rfl⟩
theorem rd15 (pb sb n c : Nat) (a : Option Addr) (w : World) (h : w.cell? ⟨pb, 187, none⟩ = some (.pointer (some ⟨sb, 0, none⟩))) (h2 : w.cell? ⟨sb, 5, none⟩ = some (.slice a n c)) : Calls Tryd.prog 15 #[.pointer (some ⟨pb, 0, none⟩)] w fun e w' => e = .returned (.slice a n c) ∧ w = w' := by
  go_enter Tryd.func15, Tryd.ntmps15
  go_wp2_with fail
  go_ret
  exact ⟨rfl, rfl⟩
def RDP (v : Value) (w : World) (e : Ending) (w' : World) : Prop := e = .returned v ∧ Below w.heap.size w w'
set_option maxRecDepth 100000 in
theorem rd17 (pb mi : Nat) (L : List ((Int × Int) × Value)) (r1 r2 : Int) (w : World) (h : w.cell? ⟨pb, 172, none⟩ = some (.map (some mi))) (hm : MP mkR w mi L) (hl : IM.look L (r1, r2) = some (.bool true)) : Calls Tryd.prog 17 #[.pointer (some ⟨pb, 0, none⟩), .agg #[.int .u32 r1, .int .u32 r2]] w (RDP (.bool true) w) := by
  have lb := World.block_lt_of_cell? _ _ h
  obtain ⟨W, hW⟩ : ∃ W, W = w.alloc (.cells #[.int .u32 r1, .int .u32 r2] 34) := ⟨_, rfl⟩
  have hb : Below w.heap.size w W := by rw [hW]; exact (Below.refl _ _).alloc (Nat.le_refl _) _
  have hm' : MP mkR W mi L := hm.of_block (hb.block mi hm.lt)
  have q1 : (Instr.lookup 164 (.map (some mi)) (.agg #[.int .u32 r1, .int .u32 r2]) false).run Tryd.prog W = .ok (.bool true) W := by
    have h := look_mb hm' (r1, r2) false
    rw [hl] at h
    exact h
  have q2 : (Instr.lookup 164 (.map (some mi)) (.agg #[.int .u32 r1, .int .u32 r2]) false).run Tryd.prog W.drew = .ok (.bool true) W.drew := by
    have h := look_mb (show MP mkR W.drew mi L from hm') (r1, r2) false
    rw [hl] at h
    exact h
  have k1 : W.cell? ⟨pb, 172, none⟩ = some (.map (some mi)) := kept hb h
  have k2 : W.cell? ⟨w.heap.size, 0, none⟩ = some (.int .u32 r1) := by rw [hW]; simp [go_sem]
  have k3 : W.cell? ⟨w.heap.size, 1, none⟩ = some (.int .u32 r2) := by rw [hW]; simp [go_sem]
  have HB := Lib.hid hb
  have HW := Lib.hid hW
  clear hm hl hm' hb hW h
  go_enter Tryd.func17, Tryd.ntmps17
  go_wp2_with fail
  rw [← HW.out]
  go_region
  all_goals
    go_wp2_with fail
    go_ret
    exact ⟨rfl, HB.out.drew⟩
set_option maxRecDepth 100000 in
set_option maxHeartbeats 4000000 in
theorem rd18 (pb mn : Nat) (L : List ((Int × Int) × Value)) (r1 r2 l q1 q2 ix : Int) (s : ByteArray) (w : World) (h : w.cell? ⟨pb, 173, none⟩ = some (.map (some mn))) (hm : MP mkR w mn L) (hl : IM.look L (r1, r2) = some (.agg #[.string s, .slice none 0 0, .int .i32 l, .int .u32 q1, .int .u32 q2, .int .u32 ix, .bool false, .bool false])) :
    Calls Tryd.prog 18 #[.pointer (some ⟨pb, 0, none⟩), .agg #[.int .u32 r1, .int .u32 r2]] w (RDP (.tuple #[.agg #[.string s, .slice none 0 0, .int .i32 l, .int .u32 q1, .int .u32 q2, .int .u32 ix, .bool false, .bool false], .bool true]) w) := by
  have lb := World.block_lt_of_cell? _ _ h
  obtain ⟨W, hW⟩ : ∃ W, W = (w.alloc (.cells #[.int .u32 r1, .int .u32 r2] 34)).alloc (.cells #[.string ⟨#[]⟩, .slice none 0 0, .int .i32 0, .int .u32 0, .int .u32 0, .int .u32 0, .bool false, .bool false] 86) := ⟨_, rfl⟩
  have hb : Below w.heap.size w W := by rw [hW]; exact ((Below.refl _ _).alloc (Nat.le_refl _) _).alloc (by simp) _
  have hm' : MP mkR W mn L := hm.of_block (hb.block mn hm.lt)
  have g1 : (Instr.lookup 168 (.map (some mn)) (.agg #[.int .u32 r1, .int .u32 r2]) true).run Tryd.prog W = .ok (.tuple #[.agg #[.string s, .slice none 0 0, .int .i32 l, .int .u32 q1, .int .u32 q2, .int .u32 ix, .bool false, .bool false], .bool true]) W := by
    have h := look_mn hm' (r1, r2) true
    rw [hl] at h
    exact h
  have g2 : (Instr.lookup 168 (.map (some mn)) (.agg #[.int .u32 r1, .int .u32 r2]) true).run Tryd.prog W.drew = .ok (.tuple #[.agg #[.string s, .slice none 0 0, .int .i32 l, .int .u32 q1, .int .u32 q2, .int .u32 ix, .bool false, .bool false], .bool true]) W.drew := by
    have h := look_mn (show MP mkR W.drew mn L from hm') (r1, r2) true
    rw [hl] at h
    exact h
  have g3 : (Instr.lookup 168 (.map (some mn)) (.agg #[.int .u32 r1, .int .u32 r2]) true).run Tryd.prog (W.alloc (.cells #[.string ⟨#[]⟩, .slice none 0 0, .int .i32 0, .int .u32 0, .int .u32 0, .int .u32 0, .bool false, .bool false] 86)).drew = .ok (.tuple #[.agg #[.string s, .slice none 0 0, .int .i32 l, .int .u32 q1, .int .u32 q2, .int .u32 ix, .bool false, .bool false], .bool true]) (W.alloc (.cells #[.string ⟨#[]⟩, .slice none 0 0, .int .i32 0, .int .u32 0, .int .u32 0, .int .u32 0, .bool false, .bool false] 86)).drew := by
    have h := look_mn (show MP mkR (W.alloc (.cells #[.string ⟨#[]⟩, .slice none 0 0, .int .i32 0, .int .u32 0, .int .u32 0, .int .u32 0, .bool false, .bool false] 86)).drew mn L from hm'.of_block (Below.heap_alloc W _ mn hm'.lt)) (r1, r2) true
    rw [hl] at h
    exact h
  have k1 : W.cell? ⟨pb, 173, none⟩ = some (.map (some mn)) := kept hb h
  have lbW : pb < W.heap.size := World.block_lt_of_cell? _ _ k1
  have k2 : W.cell? ⟨w.heap.size, 0, none⟩ = some (.int .u32 r1) := by rw [hW]; simp [go_sem]
  have k3 : W.cell? ⟨w.heap.size, 1, none⟩ = some (.int .u32 r2) := by rw [hW]; simp [go_sem]
  have AR : At W (w.heap.size + 1) 86 #[.string ⟨#[]⟩, .slice none 0 0, .int .i32 0, .int .u32 0, .int .u32 0, .int .u32 0, .bool false, .bool false] := by
    rw [hW]
    have h := At.new (w.alloc (.cells #[.int .u32 r1, .int .u32 r2] 34)) 86 #[.string ⟨#[]⟩, .slice none 0 0, .int .i32 0, .int .u32 0, .int .u32 0, .int .u32 0, .bool false, .bool false]
    rw [show (w.alloc (.cells #[.int .u32 r1, .int .u32 r2] 34)).heap.size = w.heap.size + 1 from by simp] at h
    exact h
  have lwW : w.heap.size < W.heap.size := World.block_lt_of_cell? _ _ k2
  have a0 : W.cell? ⟨w.heap.size + 1, 0, none⟩ = some (.string ⟨#[]⟩) := by rw [AR.cell]; rfl
  have a1 : W.cell? ⟨w.heap.size + 1, 1, none⟩ = some (.slice none 0 0) := by rw [AR.cell]; rfl
  have a2 : W.cell? ⟨w.heap.size + 1, 2, none⟩ = some (.int .i32 0) := by rw [AR.cell]; rfl
  have a3 : W.cell? ⟨w.heap.size + 1, 3, none⟩ = some (.int .u32 0) := by rw [AR.cell]; rfl
  have a4 : W.cell? ⟨w.heap.size + 1, 4, none⟩ = some (.int .u32 0) := by rw [AR.cell]; rfl
  have a5 : W.cell? ⟨w.heap.size + 1, 5, none⟩ = some (.int .u32 0) := by rw [AR.cell]; rfl
  have a6 : W.cell? ⟨w.heap.size + 1, 6, none⟩ = some (.bool false) := by rw [AR.cell]; rfl
  have a7 : W.cell? ⟨w.heap.size + 1, 7, none⟩ = some (.bool false) := by rw [AR.cell]; rfl
  have e0 := AR.frozen 0
  have e1 := AR.frozen 1
  have e2 := AR.frozen 2
  have e3 := AR.frozen 3
  have e4 := AR.frozen 4
  have e5 := AR.frozen 5
  have e6 := AR.frozen 6
  have e7 := AR.frozen 7
  have lr := AR.lt
  have HB := Lib.hid hb
  have HW := Lib.hid hW
  have HAR := Lib.hid AR
  clear hm hl hm' hb hW h AR
  go_enter Tryd.func18, Tryd.ntmps18
  go_wp2_with fail
  rw [← HW.out]
  go_region
  all_goals
    go_wp2_with fail
    exact bodyPost_ret (v := .tuple #[.agg #[.string s, .slice none 0 0, .int .i32 l, .int .u32 q1, .int .u32 q2, .int .u32 ix, .bool false, .bool false], .bool true]) (by simp [results, Tryd.results18, go_sem, *]) rfl ⟨rfl, (by repeat (first | with_reducible exact HB.out | (with_reducible refine Below.drew ?_) | (with_reducible refine Below.alloc ?_ (by simp; try omega) _) | (with_reducible refine Below.setCell ?_ (by simp; try omega) _)))⟩
theorem GP.up {B pb sb mi mn n ns ng np m : Nat} {xs ys gs pcs : List Value} {Li Ln : List ((Int × Int) × Value)} {L : List (ByteArray × Value)} {zs : List ByteArray} {path : ByteArray} {st rl : Int} {o1 o2 : Option (Nat × Int)} {w W : World} {e : Ending} {w' : World} (h : GP B pb sb mi mn n ns ng np m xs ys gs pcs Li Ln L zs path st rl o1 o2 W e w') (hb : Below w.heap.size w W) (hz : B ≤ w.heap.size) : GP B pb sb mi mn n ns ng np m xs ys gs pcs Li Ln L zs path st rl o1 o2 w e w' := by
  obtain ⟨st', NM, D, tb, ib, q, db, g, cap, h1, h2, h3, h4, h5, h6, h7, h8, h9, h10, h11, h12, h13, h14, h15⟩ := h
  have := hb.size
  exact ⟨st', NM, D, tb, ib, q, db, g, cap, h1, h2, h3, h4, h5, h6, h7, h8, h9, h10, (KQ.below hb).trans h11, (belMono hb hz).trans h12, by omega, by omega, by omega⟩
set_option maxRecDepth 100000 in
theorem genW (B pb sb mi mn n ns ng np m ms : Nat) (xs ys gs pcs : List Value) (Li Ln : List ((Int × Int) × Value)) (L : List (ByteArray × Value)) (zs : List ByteArray) (path : ByteArray) (st rl : Int) (a3 : Option Addr) (c3 : Nat) (a4 : Option Addr) (c4 : Nat) (o1 o2 : Option (Nat × Int)) (w : World)
    (hG : GS w B pb sb mi mn n xs ns ys ng gs Li Ln) (hI : IN B pb sb mi mn ms m np c3 c4 L zs a3 a4 pcs o1 o2 w) (hLV : ∀ p ∈ L, LV p.2) (hz : B ≤ w.heap.size) (hps : path.size ≤ 1048576) (hm : m ≤ 65536) (hn : n ≤ 200000) (hns : ns ≤ 200000) (hng : ng ≤ 200000) (hnp : np ≤ 200000) :
    Calls Tryd.prog 11 #[.pointer (some ⟨pb, 0, none⟩), .string path, .agg #[.int .i32 st, .int .i32 rl], .slice a3 m c3, .slice a4 np c4, .map (some ms), .pointer (o1.map fun p => ⟨p.1, 0, none⟩), .pointer (o2.map fun p => ⟨p.1, 0, none⟩)] w (GP B pb sb mi mn n ns ng np m xs ys gs pcs Li Ln L zs path st rl o1 o2 w) := by
  obtain ⟨W, hW⟩ : ∃ W, W = w.alloc (.cells #[.int .i32 st, .int .i32 rl] 45) := ⟨_, rfl⟩
  have hb : Below w.heap.size w W := by rw [hW]; exact (Below.refl _ _).alloc (Nat.le_refl _) _
  have HC := Lib.hid (genImport B pb sb mi mn n ns ng np m ms xs ys gs pcs Li Ln L zs path st rl a3 c3 a4 c4 o1 o2 W (hG.below hb) (hI.below hb hz) hLV (Nat.le_trans hz hb.size) hps hm hn hns hng hnp)
  have HB := Lib.hid hb
  have HW := Lib.hid hW
  have HZ := Lib.hid hz
  clear hG hI hLV hz hb hW
  obtain ⟨v1, hv1⟩ : ∃ v, v = Option.map (fun p : Nat × Int => (⟨p.1, 0, none⟩ : Addr)) o1 := ⟨_, rfl⟩
  obtain ⟨v2, hv2⟩ : ∃ v, v = Option.map (fun p : Nat × Int => (⟨p.1, 0, none⟩ : Addr)) o2 := ⟨_, rfl⟩
  rw [← hv1, ← hv2] at HC
  rw [← hv1, ← hv2]
  clear hv1 hv2
  go_enter Tryd.func11, Tryd.ntmps11
  go_wp2_with fail
  go_at_call 20
  rw [← HW.out]
  refine HC.out.mono ?_
  rintro e w' hgp
  have HGP := Lib.hid (hgp.up HB.out HZ.out)
  obtain ⟨st', NM, D, tb, ib, q, db, g, cap, rfl, _⟩ := hgp
  go_wp2_with fail
  go_ret2
  exact HGP.out
end GI
end Go.Proofs.YtoblkmnhoiodcaaDoor
