/- Proved here: the contract of pushScopeForParsePass under a parent. Conditions as stated. -/
import Derived.Test.YthgcchgpplblbaaFmtPSB
import Derived.WalkKit
import Derived.WalkSpells
import Derived.WalkLawsBesides
import Derived.Lib.Hide
import Derived.Lib.SliceRun
import Derived.Deep.RegionWith
import Derived.OwnWalk
import Derived.Laws.OwnMore
import Derived.BigRegion
import Derived.Deep.QuietTactic
import Derived.BigQuiet
import Derived.Deep.AppendLies
import Derived.ArgAppend
import Derived.MapKept
import Derived.IntWalk
import Derived.Carry
namespace Go.Proofs.YthgcchgpplblbaaFmt
open Go.RowKit
set_option linter.unusedSimpArgs false
set_option linter.unusedVariables false
namespace PS

theorem at2 (w : World) (o1 : Obj) (t : TypeId) (cs : Array Value) : At ((w.alloc o1).alloc (.cells cs t)) (w.heap.size + 1) t cs := by
  have := At.new (w.alloc o1) t cs
  rwa [show (w.alloc o1).heap.size = w.heap.size + 1 from by simp] at this
theorem at3 (w : World) (o1 o2 : Obj) (t : TypeId) (cs : Array Value) : At (((w.alloc o1).alloc o2).alloc (.cells cs t)) (w.heap.size + 1 + 1) t cs := by
  have := at2 (w.alloc o1) o2 t cs
  rwa [show (w.alloc o1).heap.size = w.heap.size + 1 from by simp] at this
theorem at4 (w : World) (o1 o2 o3 : Obj) (t : TypeId) (cs : Array Value) : At ((((w.alloc o1).alloc o2).alloc o3).alloc (.cells cs t)) (w.heap.size + 1 + 1 + 1) t cs := by
  have := at3 (w.alloc o1) o2 o3 t cs
  rwa [show (w.alloc o1).heap.size = w.heap.size + 1 from by simp] at this
theorem atGrown {w w' : World} {row : Option Nat} {x : Nat} {T : TypeId} {cs : Array Value} (h : At w x T cs) (hg : w.grownBy w' row) (hne : row ≠ some x) : At w' x T cs := (hg.block x h.lt (fun e => hne e.symm)).trans h
theorem rowOwn {w : World} {g n c : Nat} {cur : Array Value} (hat : At w g 26 cur) (hs : cur.size = c) (h1 : n ≤ c) (h2 : c ≤ maxLen) : w.ownsRow 0 26 1 (.slice (some ⟨g, 0, none⟩) n c) n (cur.toList.take n) :=
  ⟨by simp; omega, .inr ⟨g, c, cur, rfl, Nat.zero_le _, hat, h1, h2, by omega, by simp⟩⟩
theorem ownRow {w : World} {B n m : Nat} {v : Value} {xs : List Value} (h : w.ownsRow B 26 1 v n xs) (hn : n ≤ m) (h0 : 0 < n) {lo : Nat} (hlo : lo ≤ B) : ROW w lo v m := by
  obtain ⟨_, ⟨_, h⟩ | ⟨g, cap, cur, h1, hBg, h3, h4, h5, h6, _⟩⟩ := h
  · omega
  · exact ⟨_, n, cap, h1, hn, .inr ⟨g, cur, rfl, by omega, h3, by omega, h4, h5⟩⟩
/-- What the append to the parent's children leaves: every block but children rows is as it was; children rows stay sound. -/
structure CH (W w1 : World) (lo : Nat) (ch : Value) (m : Nat) : Prop where
  size : W.heap.size ≤ w1.heap.size
  blk : ∀ x T cs, T ≠ 26 → At W x T cs → At w1 x T cs
  obj : ∀ x, x < W.heap.size → (∀ cs, ¬ At W x 26 cs) → w1.heap[x]? = W.heap[x]?
  kr : KR W w1
  row : ROW w1 lo ch m
  low : ∀ B0, B0 ≤ W.heap.size → True
theorem chGrows {W w1 : World} {lo : Nat} {ch : Value} {n m : Nat} {xs : List Value} (hlo : lo ≤ W.heap.size) (hown : w1.ownsRow W.heap.size 26 1 ch (n + 1) xs) (hg : W.grownBy w1 none) (hm : n + 1 ≤ m) : CH W w1 lo ch m :=
  ⟨hg.size, fun x T cs _ h => atGrown h hg (by simp), fun x hx _ => hg.block x hx (by simp), KR.same (fun g cur h => atGrown h hg (by simp)), ownRow hown hm (by omega) hlo, fun _ _ => trivial⟩
theorem chFits {W w1 : World} {lo g n c m : Nat} {xs : List Value} {cur : Array Value} (hlo : lo ≤ g) (hat : At W g 26 cur) (hs : cur.size = c) (hown : w1.ownsRow 0 26 1 (.slice (some ⟨g, 0, none⟩) (n + 1) c) (n + 1) xs) (hg : W.grownBy w1 (some g)) (hm : n + 1 ≤ m) : CH W w1 lo (.slice (some ⟨g, 0, none⟩) (n + 1) c) m := by
  refine ⟨hg.size, fun x T cs hT h => atGrown h hg (fun e => atNe h hat hT (Option.some.inj e).symm), fun x hx h => hg.block x hx (fun e => h cur (by rw [show x = g from Option.some.inj e]; exact hat)), fun g' cur' h => ?_, ?_, fun _ _ => trivial⟩
  rotate_left
  · obtain ⟨_, ⟨e', _⟩ | ⟨g2, cap, cur2, h1, _, h3, h4, h5, h6, _⟩⟩ := hown
    · cases e'
    · simp only [Value.slice.injEq, Option.some.injEq, Addr.mk.injEq] at h1
      obtain ⟨⟨rfl, _⟩, _, rfl⟩ := h1
      exact ⟨_, _, _, rfl, hm, .inr ⟨g, cur2, rfl, hlo, h3, by omega, h4, h5⟩⟩
  by_cases e : g' = g
  · subst e
    have hc : cur' = cur := by
      unfold At at h hat
      rw [h] at hat
      simpa using hat
    obtain ⟨_, ⟨e', _⟩ | ⟨g2, cap, cur2, h1, _, h3, _, _, h6, _⟩⟩ := hown
    · cases e'
    · simp only [Value.slice.injEq, Option.some.injEq, Addr.mk.injEq] at h1
      obtain ⟨⟨rfl, _⟩, _, rfl⟩ := h1
      exact ⟨cur2, h3, by rw [hc]; omega⟩
  · exact ⟨cur', atGrown h hg (fun e' => e (Option.some.inj e').symm), rfl⟩
/-- What a push under the parent Q leaves. -/
def P1P (lo B p n Q : Nat) (pvQ : Value) (mbQ : Nat) (ulQ smQ kdQ : Int) (m0 : Nat) (xs : List Value) (loc kd : Int) (a : Option Addr) (c : Nat) (w : World) (e : Ending) (w' : World) : Prop :=
  e = .returned (.int .i64 n) ∧ (∃ a' c', PQ w' p (.pointer (some ⟨w.heap.size + 1 + 1, 0, none⟩)) (.slice a' (n + 1) c') ∧ w'.ownsRow B 188 2 (.slice a' (n + 1) c') (n + 1) (xs ++ [.pointer (some ⟨w.heap.size + 1 + 1, 0, none⟩), il loc])) ∧
  At w' (w.heap.size + 1 + 1) 41 (scv (.pointer (some ⟨Q, 0, none⟩)) (.slice none 0 0) (w.heap.size + 1) ulQ smQ kd) ∧ w'.heap[w.heap.size + 1]? = some (.map #[] 0) ∧
  (∃ ch', At w' Q 41 (scv pvQ ch' mbQ ulQ smQ kdQ) ∧ ROW w' lo ch' (m0 + 1)) ∧ KR w w' ∧ w.heap.size ≤ w'.heap.size ∧
  (∀ x, x < w.heap.size → x ≠ p → x ≠ Q → (Value.slice a n c).ownBlock ≠ some x → (∀ cs, ¬ At w x 26 cs) → w'.heap[x]? = w.heap[x]?) ∧ (∀ B0, B0 ≤ p → B0 ≤ Q → B0 ≤ lo → Below B0 w w')

set_option maxRecDepth 100000 in
set_option maxHeartbeats 8000000 in
theorem push1 (lo B p n c Q mbQ m0 : Nat) (pvQ : Value) (ch : Value) (ulQ smQ kdQ : Int) (a : Option Addr) (xs : List Value) (loc prev kd : Int) (w : World) (hn : n ≤ 70000) (hnp : 0 < n) (hm0 : m0 ≤ 70000) (hB : B ≤ w.heap.size) (hpB : p < B) (h : PQ w p (.pointer (some ⟨Q, 0, none⟩)) (.slice a n c)) (hQ : At w Q 41 (scv pvQ ch mbQ ulQ smQ kdQ)) (hQp : Q ≠ p) (hlo : lo ≤ w.heap.size) (hrow : ROW w lo ch m0) (hown : w.ownsRow B 188 2 (.slice a n c) n xs) (hprev : xs[(n - 1) * 2 + 1]? = some (il prev) ∧ prev < loc) (hk8 : (kd == 8) = false) (hg0 : w.cell? ⟨0, 0, none⟩ = some (.int .u32 4294967295)) (hg1 : w.cell? ⟨0, 1, none⟩ = some (.int .u32 4294967295)) (hp0 : 0 < p) (hQ0 : 0 < Q) (hloc : -2147483648 ≤ loc ∧ loc ≤ 2147483647) :
    Calls Tryf.prog 22 #[.pointer (some ⟨p, 0, none⟩), .int .u8 kd, .agg #[il loc]] w (P1P lo B p n Q pvQ mbQ ulQ smQ kdQ m0 xs loc kd a c w) := by
  have hmm := @run_makeMap Tryf.prog
  obtain ⟨h104, f104, h177, f177, hty⟩ := h
  have HTY := Lib.hid hty
  have H26 := Lib.hid (show ∀ cs, ¬ At w p 26 cs from fun cs hat => by obtain ⟨cs', h'⟩ := HTY.out; exact atNe hat h' (by decide) rfl)
  clear hty
  have lp := World.block_lt_of_cell? _ _ h104
  have l0 := World.block_lt_of_cell? _ _ hg0
  have lQ := hQ.lt
  have lp1 : p < w.heap.size + 1 := by omega
  have lp2 : p < w.heap.size + 1 + 1 := by omega
  have lp3 : p < w.heap.size + 1 + 1 + 1 := by omega
  have lQ1 : Q < w.heap.size + 1 := by omega
  have lQ2 : Q < w.heap.size + 1 + 1 := by omega
  have lQ3 : Q < w.heap.size + 1 + 1 + 1 := by omega
  have l01 : 0 < w.heap.size + 1 := by omega
  have l02 : 0 < w.heap.size + 1 + 1 := by omega
  have q2 : w.cell? ⟨Q, 2, none⟩ = some ch := by rw [hQ.cell]; rfl
  have qf2 := hQ.frozen 2
  have hn0 : (0 : Int) < (n : Int) := by omega
  have hn1 : (n : Int) ≤ 70000 := by omega
  obtain ⟨i0, hi0, hz0, hz1, hz2⟩ := info_parts info188
  have I0 := Lib.hid hi0
  have I1 := Lib.hid hz0
  have I2 := Lib.hid hz1
  have I3 := Lib.hid hz2
  clear hi0 hz0 hz1 hz2
  obtain ⟨j0, hi0, hz0, hz1, hz2⟩ := info_parts info26
  have J0 := Lib.hid hi0
  have J1 := Lib.hid hz0
  have J2 := Lib.hid hz1
  have J3 := Lib.hid hz2
  clear hi0 hz0 hz1 hz2
  have HO := Lib.hid hown
  have HP := Lib.hid hprev
  have HQ := Lib.hid hQ
  have HR := Lib.hid hrow
  clear hown hprev hQ hrow
  obtain ⟨W, hW⟩ : ∃ W, W = (((w.alloc (.cells #[il loc] 33)).alloc (.map #[] 0)).alloc (.cells (scv (.pointer (some ⟨Q, 0, none⟩)) (.slice none 0 0) (w.heap.size + 1) 0 0 kd) 41)).alloc (.cells #[.pointer (some ⟨w.heap.size + 1 + 1, 0, none⟩)] 26) := ⟨_, rfl⟩
  have zW : W.heap.size = w.heap.size + 1 + 1 + 1 + 1 := by rw [hW]; simp
  have bW : Below w.heap.size w W := by rw [hW]; exact ((((Below.refl _ _).alloc (Nat.le_refl _) _).alloc (by simp) _).alloc (by simp; omega) _).alloc (by simp; omega) _
  have B1 := Lib.hid (show At W w.heap.size 33 #[il loc] from by rw [hW]; exact (((At.new w 33 _).alloc _).alloc _).alloc _)
  have S1 := Lib.hid (show At W (w.heap.size + 1 + 1) 41 (scv (.pointer (some ⟨Q, 0, none⟩)) (.slice none 0 0) (w.heap.size + 1) 0 0 kd) from by rw [hW]; exact (at3 _ _ _ _ _).alloc _)
  have M1 := Lib.hid (show W.heap[w.heap.size + 1]? = some (.map #[] 0) from by
    rw [hW, Below.heap_alloc _ _ _ (by simp), Below.heap_alloc _ _ _ (by simp)]
    have h := heap_alloc_new (w.alloc (.cells #[il loc] 33)) (.map #[] 0)
    rw [show (w.alloc (.cells #[il loc] 33)).heap.size = w.heap.size + 1 from by simp] at h
    exact h)
  have NW : ∀ j u, ([.pointer (some ⟨w.heap.size + 1 + 1, 0, none⟩)] : List Value)[j]? = some u → W.cell? ((⟨w.heap.size + 1 + 1 + 1, 0, none⟩ : Addr).add j) = some u := by
    intro j u hj
    have hat : At W (w.heap.size + 1 + 1 + 1) 26 #[.pointer (some ⟨w.heap.size + 1 + 1, 0, none⟩)] := by rw [hW]; exact at4 _ _ _ _ _ _
    match j, hj with
    | 0, hj =>
      simp at hj; subst hj
      rw [Addr.add_lit, hat.cell]; rfl
    | j + 1, hj => simp at hj
  have HNW := Lib.hid NW
  have HBW := Lib.hid bW
  have HZW := Lib.hid zW
  have HW := Lib.hid hW
  clear NW bW zW hW
  obtain ⟨ac, nc, cc, rfl, hnc, hcase⟩ := HR.out
  have key : (cc < nc + 1 ∧ ∃ olds : List Value, olds.length = nc * 1 ∧ (ac = none → nc = 0 ∧ cc = 0) ∧ ∀ b, ac = some b → ∀ j u, olds[j]? = some u → W.cell? (b.add j) = some u) ∨ (nc + 1 ≤ cc ∧ ∃ g cur, ac = some ⟨g, 0, none⟩ ∧ lo ≤ g ∧ At W g 26 cur ∧ cur.size = cc ∧ cc ≤ maxLen) := by
    rcases hcase with ⟨rfl, rfl, rfl⟩ | ⟨g, cur, rfl, hlg, hat, hs, h1, h2⟩
    · exact .inl ⟨by omega, [], by simp, fun _ => ⟨rfl, rfl⟩, fun b hb => by cases hb⟩
    · by_cases hf : nc + 1 ≤ cc
      · exact .inr ⟨hf, g, cur, rfl, hlg, hat.below HBW.out hat.lt, hs, h2⟩
      · have hat2 := hat.below HBW.out hat.lt
        refine .inl ⟨by omega, cur.toList.take nc, (by simp; omega), (fun h => by cases h), fun b hb j u hj => ?_⟩
        obtain rfl := Option.some.inj hb
        exact World.ownsRow.cells (rowOwn hat2 hs h1 h2) rfl j u hj
  clear hcase
  have HN1 := Lib.hid (show ∀ u ∈ ([.pointer (some ⟨w.heap.size + 1 + 1, 0, none⟩)] : List Value), u.oneCell' = true from by simp [Value.oneCell'])
  have HN2 := Lib.hid (show nc + 1 ≤ maxLen from by unfold maxLen; omega)
  have HN3 := Lib.hid (show (nc + 1) * 8 ≤ 140737488355328 from by omega)
  have HKEY := Lib.hid key
  clear key
  rcases HKEY.out with ⟨hfull, olds, ho1, ho2, ho3⟩ | ⟨hfit, gq, curq, rfl, hlg, hatq, hsq, hmq'⟩
  · have HO2 := Lib.hid ho2
    have HO3 := Lib.hid ho3
    have HO1 := Lib.hid ho1
    clear ho1 ho2 ho3
    go_enter Tryf.func22, Tryf.ntmps22
    go_wp2_with (rw [← HW.out]; with_reducible refine wpList_append_grows _ (o := ⟨some 34, _, _, _, _, _⟩) rfl _ _ 25 rfl 26 j0 _ 1 8 Tryf.underlying25 J0.out J1.out J2.out J3.out rfl (by decide) ac nc cc olds rfl HO2.out HO1.out HO3.out ⟨w.heap.size + 1 + 1 + 1, 0, none⟩ 1 1 [.pointer (some ⟨w.heap.size + 1 + 1, 0, none⟩)] rfl rfl HNW.out HN1.out hfull HN2.out HN3.out ?_)
    intro ch' w1 hownc hgrc
    obtain ⟨ac', cc', rfl⟩ := ownShape hownc
    have HCH := Lib.hid (chGrows (m := m0 + 1) (lo := lo) (by have := HBW.out.size; omega) hownc hgrc (by omega))
    have BG := Lib.hid (show ∀ B0, B0 ≤ w.heap.size → B0 ≤ lo → Below B0 w w1 from fun B0 h0 _ => Below.grown (HBW.out.mono h0) hgrc (by have := HBW.out.size; omega) (fun x hx => by cases hx))
    clear hownc hgrc
    have AQ1 := HCH.out.blk Q 41 _ (by decide) (HQ.out.below HBW.out HQ.out.lt)
    have AS1 := HCH.out.blk _ 41 _ (by decide) S1.out
    have AB1 := HCH.out.blk _ 33 _ (by decide) B1.out
    have eP : w1.heap[p]? = w.heap[p]? := (HCH.out.obj p (by have := HBW.out.size; omega) (fun cs hat => H26.out cs ((HBW.out.block p lp).symm.trans hat))).trans (HBW.out.block p lp)
    have eM : w1.heap[w.heap.size + 1]? = some (.map #[] 0) := (HCH.out.obj _ (by have := HZW.out; omega) (fun cs hat => by have h := M1.out; unfold At at hat; rw [hat] at h; cases h)).trans M1.out
    have x104 : w1.cell? ⟨p, 104, none⟩ = some (.pointer (some ⟨Q, 0, none⟩)) := (World.cell?_of_block (a := ⟨p, 104, none⟩) eP).trans h104
    have xf104 : w1.frozen? ⟨p, 104, none⟩ = false := (World.frozen?_of_block (a := ⟨p, 104, none⟩) eP).trans f104
    have x177 : w1.cell? ⟨p, 177, none⟩ = some (.slice a n c) := (World.cell?_of_block (a := ⟨p, 177, none⟩) eP).trans h177
    have xf177 : w1.frozen? ⟨p, 177, none⟩ = false := (World.frozen?_of_block (a := ⟨p, 177, none⟩) eP).trans f177
    have y2 : w1.cell? ⟨Q, 2, none⟩ = some (.slice ac nc cc) := by rw [AQ1.cell]; rfl
    have yf2 := AQ1.frozen 2
    have y14 : w1.cell? ⟨Q, 14, none⟩ = some (.int .u8 smQ) := by rw [AQ1.cell]; rfl
    have y6 : w1.cell? ⟨Q, 6, none⟩ = some (il ulQ) := by rw [AQ1.cell]; rfl
    have z14 : w1.cell? ⟨w.heap.size + 1 + 1, 14, none⟩ = some (.int .u8 0) := by rw [AS1.cell]; rfl
    have z6 : w1.cell? ⟨w.heap.size + 1 + 1, 6, none⟩ = some (il 0) := by rw [AS1.cell]; rfl
    have zf14 := AS1.frozen 14
    have zf6 := AS1.frozen 6
    have lQ1' := AQ1.lt
    have lS1' := AS1.lt
    have lP1' : p < w1.heap.size := by omega
    have nQS : ¬ Q = w.heap.size + 1 + 1 := by omega
    have nSQ : ¬ w.heap.size + 1 + 1 = Q := by omega
    have nPQ : ¬ p = Q := fun e => hQp e.symm
    have nQP : ¬ Q = p := hQp
    have nPS : ¬ p = w.heap.size + 1 + 1 := by omega
    have nSP : ¬ w.heap.size + 1 + 1 = p := by omega
    have HAQ1 := Lib.hid AQ1
    have HAS1 := Lib.hid AS1
    have HAB1 := Lib.hid AB1
    have HEM := Lib.hid eM
    have HEP := Lib.hid eP
    clear AQ1 AS1 AB1 eP eM h104 f104 h177 f177 hg0 hg1 q2 qf2
    go_wp2_with fail
    have HV0 := Lib.hid (Eq.refl ((((w1.setCell ⟨Q, 2, none⟩ (.slice ac' (nc + 1) cc')).setCell ⟨w.heap.size + 1 + 1, 14, none⟩ (.int .u8 smQ)).setCell ⟨w.heap.size + 1 + 1, 6, none⟩ (il ulQ)).setCell ⟨p, 104, none⟩ (.pointer (some ⟨w.heap.size + 1 + 1, 0, none⟩))))
    obtain ⟨V, hV⟩ : ∃ V, V = ((((w1.setCell ⟨Q, 2, none⟩ (.slice ac' (nc + 1) cc')).setCell ⟨w.heap.size + 1 + 1, 14, none⟩ (.int .u8 smQ)).setCell ⟨w.heap.size + 1 + 1, 6, none⟩ (il ulQ)).setCell ⟨p, 104, none⟩ (.pointer (some ⟨w.heap.size + 1 + 1, 0, none⟩))) := ⟨_, rfl⟩
    have zV : V.heap.size = w1.heap.size := by rw [hV]; simp [World.setCell]
    have far : ∀ {x : Nat} {T : TypeId} {cs : Array Value}, At w1 x T cs → x ≠ Q → x ≠ w.heap.size + 1 + 1 → x ≠ p → At V x T cs := fun h h1 h2 h3 => by
      rw [hV]
      exact (((h.far (by simpa using h1) _).far (by simpa using h2) _).far (by simpa using h2) _).far (by simpa using h3) _
    have farH : ∀ x, x ≠ Q → x ≠ w.heap.size + 1 + 1 → x ≠ p → V.heap[x]? = w1.heap[x]? := fun x h1 h2 h3 => by
      rw [hV, Below.heap_setCell _ _ _ x (by simpa using h3), Below.heap_setCell _ _ _ x (by simpa using h2), Below.heap_setCell _ _ _ x (by simpa using h2), Below.heap_setCell _ _ _ x (by simpa using h1)]
    have AB := Lib.hid (far HAB1.out (by omega) (by omega) (by omega))
    have AS := Lib.hid (show At V (w.heap.size + 1 + 1) 41 (scv (.pointer (some ⟨Q, 0, none⟩)) (.slice none 0 0) (w.heap.size + 1) ulQ smQ kd) from by
      rw [hV]
      exact (((HAS1.out.far (by simpa using nSQ) _).set 14 _).set 6 _).far (by simpa using nSP) _)
    have AQ := Lib.hid (show At V Q 41 (scv pvQ (.slice ac' (nc + 1) cc') mbQ ulQ smQ kdQ) from by
      rw [hV]
      exact (((HAQ1.out.set 2 _).far (by simpa using nQS) _).far (by simpa using nQS) _).far (by simpa using nQP) _)
    have AM := Lib.hid (show V.heap[w.heap.size + 1]? = some (.map #[] 0) from (farH _ (by omega) (by omega) (by omega)).trans HEM.out)
    have KR1 : KR w1 V := KR.same (fun g cur h => far h (fun e => atNe h HAQ1.out (by decide) e) (fun e => atNe h HAS1.out (by decide) e) (fun e => by
      subst e
      exact H26.out cur (HEP.out.symm.trans h)))
    have RV := Lib.hid (HCH.out.row.kr KR1)
    have KRV := Lib.hid (((KR.same (fun g cur h => h.below HBW.out h.lt) : KR w W).trans HCH.out.kr).trans KR1)
    have OV := Lib.hid (show V.ownsRow B 188 2 (.slice a n c) n xs from ownKeep0 HO.out (fun x cs hx hat => by
      have h1 := HCH.out.blk x 188 cs (by decide) (hat.below HBW.out hat.lt)
      have h2 := far h1 (fun e => atNe hat HQ.out (by decide) e) (by have := hat.lt; omega) (by have := (World.ownsRow.lt HO.out x hx).1; omega)
      exact h2.trans hat.symm))
    have KV := Lib.hid (show ∀ x, x < w.heap.size → x ≠ p → x ≠ Q → (∀ cs, ¬ At w x 26 cs) → V.heap[x]? = w.heap[x]? from fun x hx h1 h2 h3 =>
      ((farH x h2 (by omega) h1).trans (HCH.out.obj x (by have := HBW.out.size; omega) (fun cs hat => h3 cs ((HBW.out.block x hx).symm.trans hat)))).trans (HBW.out.block x hx))
    have TY := Lib.hid (show ∃ cs, At V p 186 cs from by
      obtain ⟨cs, h⟩ := HTY.out
      rw [hV]
      exact ⟨_, ((((show At w1 p 186 cs from HEP.out.trans h).far (by simpa using nPQ) _).far (by simpa using nPS) _).far (by simpa using nPS) _).set 104 _⟩)
    have v177 : V.cell? ⟨p, 177, none⟩ = some (.slice a n c) := by rw [hV]; simp [go_sem, *]
    have vf177 : V.frozen? ⟨p, 177, none⟩ = false := by rw [hV]; simp [go_sem, *]
    have v104 : V.cell? ⟨p, 104, none⟩ = some (.pointer (some ⟨w.heap.size + 1 + 1, 0, none⟩)) := by rw [hV]; simp [go_sem, *]
    have vf104 : V.frozen? ⟨p, 104, none⟩ = false := by rw [hV]; simp [go_sem, *]
    have vb : V.cell? ⟨w.heap.size, 0, none⟩ = some (il loc) := by rw [AB.out.cell]; rfl
    have szV : w.heap.size ≤ w1.heap.size := by have := HBW.out.size; have := HCH.out.size; omega
    have lpV : p < V.heap.size := by omega
    have lbV := AB.out.lt
    have l3V := AS.out.lt
    have lmV : w.heap.size + 1 < V.heap.size := by omega
    have BV := Lib.hid (show ∀ B0, B0 ≤ p → B0 ≤ Q → B0 ≤ lo → Below B0 w V from fun B0 h1 h2 h3 => by
      rw [hV]
      exact ((((BG.out B0 (by omega) h3).setCell (by simpa using h2) _).setCell (by simp; omega) _).setCell (by simp; omega) _).setCell (by simpa using h1) _)
    rw [← hV]
    clear hV zV far farH KR1 szV x104 xf104 x177 xf177 y2 yf2 y14 y6 z14 z6 zf14 zf6
    have hgp := HP.out
    obtain ⟨g0, c0, hgg, _, _, _, csx, hax⟩ : ∃ g c', (Value.slice a n c) = .slice (some ⟨g, 0, none⟩) n c' ∧ B ≤ g ∧ n ≤ c' ∧ c' ≤ maxLen ∧ ∃ cs, At V g 188 cs := by
      obtain ⟨h0, ⟨_, h⟩ | ⟨g, cap, cur, h1, h2, h3, h4, h5, _⟩⟩ := OV.out
      · omega
      · exact ⟨g, cap, h1, h2, h4, h5, cur, h3⟩
    simp only [Value.slice.injEq] at hgg
    obtain ⟨rfl, _, rfl⟩ := hgg
    have q1 : V.cell? ⟨g0, (n - 1) * 2 + 1, none⟩ = some (il prev) := by rw [World.ownsRow.cellAt OV.out _ (by omega)]; exact hgp.1
    have lg0 := hax.lt
    obtain ⟨m1, hm1⟩ : ∃ m1, m1 = n - 1 := ⟨_, rfl⟩
    rw [← hm1] at q1
    have e1 : (n : Int) - 1 = (m1 : Int) := by omega
    have e2 : IntKind.i64.wrap ((n : Int) - 1) = (m1 : Int) := by rw [e1]; exact IntWalk.i64_in _ (by omega)
    have hmz : (0 : Int) ≤ (m1 : Int) := Int.natCast_nonneg _
    have hmn : (m1 : Int) < (n : Int) := by omega
    have hpl : ¬ loc ≤ prev := by have := hgp.2; omega
    clear hgp hax hm1 csx
    go_quiet (fail)
    obtain ⟨U, hU⟩ : ∃ U, U = V.drewN nq := ⟨_, rfl⟩
    have OV := Lib.hid (show U.ownsRow B 188 2 (.slice (some ⟨g0, 0, none⟩) n c) n xs from by rw [hU]; exact OV.out)
    have AB := Lib.hid (show At U w.heap.size 33 #[il loc] from by rw [hU]; exact AB.out)
    have AS := Lib.hid (show At U (w.heap.size + 1 + 1) 41 (scv (.pointer (some ⟨Q, 0, none⟩)) (.slice none 0 0) (w.heap.size + 1) ulQ smQ kd) from by rw [hU]; exact AS.out)
    have AQ := Lib.hid (show At U Q 41 (scv pvQ (.slice ac' (nc + 1) cc') mbQ ulQ smQ kdQ) from by rw [hU]; exact AQ.out)
    have AM := Lib.hid (show U.heap[w.heap.size + 1]? = some (.map #[] 0) from by rw [hU]; exact AM.out)
    have KV := Lib.hid (show ∀ x, x < w.heap.size → x ≠ p → x ≠ Q → (∀ cs, ¬ At w x 26 cs) → U.heap[x]? = w.heap[x]? from by rw [hU]; exact KV.out)
    have RV := Lib.hid (show ROW U lo (.slice ac' (nc + 1) cc') (m0 + 1) from by rw [hU]; exact RV.out)
    have KRV := Lib.hid (show KR w U from by rw [hU]; exact KRV.out)
    have BV := Lib.hid (show ∀ B0, B0 ≤ p → B0 ≤ Q → B0 ≤ lo → Below B0 w U from fun B0 h1 h2 h3 => by rw [hU]; exact below_drewN (BV.out B0 h1 h2 h3) _)
    have TY := Lib.hid (show ∃ cs, At U p 186 cs from by rw [hU]; exact TY.out)
    have w177 : U.cell? ⟨p, 177, none⟩ = some (.slice (some ⟨g0, 0, none⟩) n c) := by rw [hU]; exact v177
    have wf177 : U.frozen? ⟨p, 177, none⟩ = false := by rw [hU]; exact vf177
    have w104 : U.cell? ⟨p, 104, none⟩ = some (.pointer (some ⟨w.heap.size + 1 + 1, 0, none⟩)) := by rw [hU]; exact v104
    have wf104 : U.frozen? ⟨p, 104, none⟩ = false := by rw [hU]; exact vf104
    have wb : U.cell? ⟨w.heap.size, 0, none⟩ = some (il loc) := by rw [AB.out.cell]; rfl
    have lpU : p < U.heap.size := by rw [hU]; exact lpV
    have lbU : w.heap.size < U.heap.size := by rw [hU]; exact lbV
    have l3U : w.heap.size + 1 + 1 < U.heap.size := by rw [hU]; exact l3V
    rw [← hU]
    clear hU v177 vf177 v104 vf104 vb lpV lbV l3V q1 e1 e2
    go_wp2_with fail
    have x177 : U.cell? ⟨p, 177, none⟩ = some (.slice (some ⟨g0, 0, none⟩) n c) := w177
    obtain ⟨g, cap, w1', hrun, hown1, hgrow, hlie, hlt2⟩ := appRun_lies (P := Tryf.prog) ((U.alloc (.cells #[.pointer (some ⟨w.heap.size + 1 + 1, 0, none⟩), il loc] 188)).drew) 161 161 B 188 i0 _ 2 16 Tryf.underlying161 I0.out I1.out I2.out I3.out rfl (by omega) (.slice (some ⟨g0, 0, none⟩) n c) n xs ((OV.out.alloc _).drew) ⟨U.heap.size, 0, none⟩ 1 1 [.pointer (some ⟨w.heap.size + 1 + 1, 0, none⟩), il loc] (by rfl) (World.news_of_block (cs := #[.pointer (some ⟨w.heap.size + 1 + 1, 0, none⟩), il loc]) (t := 188) (fr := (0, 0)) (heap_alloc_new U _)) (by simp [Value.oneCell']) (by omega) (by unfold maxLen; omega) (by omega) (by simp; omega) (U.heap.size + 1) (by simp)
    have hneo : (Value.slice (some ⟨g0, 0, none⟩) n c).ownBlock ≠ some p := fun e => by have := (World.ownsRow.lt OV.out p e).1; omega
    have kp : ∀ o, w1'.cell? ⟨p, o, none⟩ = U.cell? ⟨p, o, none⟩ := fun o => (World.cell?_of_block (a := ⟨p, o, none⟩) (hgrow.block p (by simp; omega) (Ne.symm hneo))).trans (World.cell?_alloc_lt _ _ _ lpU)
    have kf : ∀ o, w1'.frozen? ⟨p, o, none⟩ = U.frozen? ⟨p, o, none⟩ := fun o => (World.frozen?_of_block (a := ⟨p, o, none⟩) (hgrow.block p (by simp; omega) (Ne.symm hneo))).trans (((Below.refl U.heap.size U).alloc (Nat.le_refl _) _).frozen (p := ⟨p, o, none⟩) lpU)
    have y177 : w1'.cell? ⟨p, 177, none⟩ = some (.slice (some ⟨g0, 0, none⟩) n c) := (kp _).trans w177
    have z177 : w1'.frozen? ⟨p, 177, none⟩ = false := (kf _).trans wf177
    have y104 : w1'.cell? ⟨p, 104, none⟩ = some (.pointer (some ⟨w.heap.size + 1 + 1, 0, none⟩)) := (kp _).trans w104
    have z104 : w1'.frozen? ⟨p, 104, none⟩ = false := (kf _).trans wf104
    have lp1' := World.block_lt_of_cell? _ _ y177
    have HOW := Lib.hid hown1
    have HGR := Lib.hid hgrow
    have HNE := Lib.hid hneo
    clear hown1 hgrow hlie hneo x177 kp kf
    go_region
    go_wp2_with fail
    go_ret
    have HX := Lib.hid (ownKeep0 (w' := w1'.setCell ⟨p, 177, none⟩ (.slice (some ⟨g, 0, none⟩) (n + 1) cap)) HOW.out (fun x cs hx hat => Below.heap_setCell _ _ _ x (by
      simp only [Value.ownBlock, Option.some.injEq] at hx
      have := (World.ownsRow.lt HOW.out x (by simp [Value.ownBlock, hx])).1
      simp; omega)))
    have kw : ∀ x, x < U.heap.size → x ≠ p → (Value.slice (some ⟨g0, 0, none⟩) n c).ownBlock ≠ some x → (w1'.setCell ⟨p, 177, none⟩ (.slice (some ⟨g, 0, none⟩) (n + 1) cap)).heap[x]? = U.heap[x]? := fun x hx hxp hxo => by
      rw [Below.heap_setCell _ _ _ x (by simpa using hxp), HGR.out.block x (by simp; omega) (Ne.symm hxo)]
      exact Below.heap_alloc U _ x hx
    have own3 : ∀ x cs t, t ≠ 188 → At U x t cs → (Value.slice (some ⟨g0, 0, none⟩) n c).ownBlock ≠ some x := fun x cs t ht hat e => by
      obtain ⟨h0, ⟨h, _⟩ | ⟨g', cap', cur, h1, _, h3, _⟩⟩ := OV.out
      · rw [h] at e; cases e
      · rw [h1] at e
        simp only [Value.ownBlock, Option.some.injEq] at e
        exact atNe hat h3 ht e.symm
    have hszU : w.heap.size ≤ U.heap.size := by omega
    have KRU : KR U (w1'.setCell ⟨p, 177, none⟩ (.slice (some ⟨g, 0, none⟩) (n + 1) cap)) := KR.same (fun x cur h => (kw x h.lt (fun e => by subst e; obtain ⟨cs, h'⟩ := TY.out; exact atNe h h' (by decide) rfl) (own3 x cur 26 (by decide) h)).trans h)
    refine ⟨rfl, ⟨some ⟨g, 0, none⟩, cap, ⟨?_, ?_, ?_, ?_, ?_⟩, HX.out⟩, ?_, ?_, ⟨_, ?_, RV.out.kr KRU⟩, KRV.out.trans KRU, ?_, fun x hx h1 h2 h3 h4 => ?_, fun B0 h1 h2 h3 => ?_⟩
    · rw [World.cell?_setCell_other _ _ _ _ (by intro e; injection e with _ e2 _; omega)]; exact y104
    · simp [go_sem, *]
    · simp [go_sem, *]
    · simp [go_sem, *]
    · obtain ⟨cs, h⟩ := TY.out
      exact ⟨_, (show At w1' p 186 cs from (HGR.out.block p (by simp; omega) (Ne.symm HNE.out)).trans ((h.alloc _).drew)).set 177 _⟩
    · exact (kw _ (by omega) (by omega) (own3 _ _ _ (by decide) AS.out)).trans AS.out
    · refine (kw _ (by omega) (by omega) ?_).trans AM.out
      intro e
      obtain ⟨h0, ⟨h, _⟩ | ⟨g', cap', cur, h1, _, h3, _⟩⟩ := OV.out
      · rw [h] at e; cases e
      · rw [h1] at e
        simp only [Value.ownBlock, Option.some.injEq] at e
        rw [e, AM.out] at h3
        cases h3
    · exact (kw _ AQ.out.lt hQp (own3 _ _ _ (by decide) AQ.out)).trans AQ.out
    · have := HGR.out.size
      simp [World.setCell] at *
      omega
    · exact (kw x (by omega) h1 h3).trans (KV.out x hx h1 h2 h4)
    · exact (Below.grown (((BV.out B0 h1 h2 h3).alloc (by have := h1; omega) _).drew) HGR.out (by simp; omega) (fun x hx => by have := (World.ownsRow.lt OV.out x hx).1; omega)).setCell (by simpa using h1) _
  · have HAQ := Lib.hid hatq
    have HOQ := Lib.hid (rowOwn (n := nc) hatq hsq (by omega) hmq')
    clear hatq
    go_enter Tryf.func22, Tryf.ntmps22
    go_wp2_with (rw [← HW.out]; with_reducible refine wpList_append_fits _ (o := ⟨some 34, _, _, _, _, _⟩) rfl _ _ 25 rfl 0 26 j0 1 Tryf.underlying25 J0.out J2.out gq nc cc (curq.toList.take nc) rfl HOQ.out ⟨w.heap.size + 1 + 1 + 1, 0, none⟩ 1 1 [.pointer (some ⟨w.heap.size + 1 + 1, 0, none⟩)] rfl rfl HNW.out HN1.out hfit ?_)
    intro w1 hownc hgrc
    obtain ⟨ac', hac'⟩ : ∃ ac', ac' = (some ⟨gq, 0, none⟩ : Option Addr) := ⟨_, rfl⟩
    obtain ⟨cc', hcc'⟩ : ∃ cc', cc' = cc := ⟨_, rfl⟩
    have HCH := Lib.hid (show CH W w1 lo (.slice ac' (nc + 1) cc') (m0 + 1) from by rw [hac', hcc']; exact chFits hlg HAQ.out hsq hownc hgrc (by omega))
    have BG := Lib.hid (show ∀ B0, B0 ≤ w.heap.size → B0 ≤ lo → Below B0 w w1 from fun B0 h0 h1 => Below.grown (HBW.out.mono h0) hgrc (by have := HBW.out.size; omega) (fun x hx => by
      obtain rfl := Option.some.inj hx
      omega))
    rw [← hac', ← hcc']
    clear hownc hgrc hac' hcc'
    have AQ1 := HCH.out.blk Q 41 _ (by decide) (HQ.out.below HBW.out HQ.out.lt)
    have AS1 := HCH.out.blk _ 41 _ (by decide) S1.out
    have AB1 := HCH.out.blk _ 33 _ (by decide) B1.out
    have eP : w1.heap[p]? = w.heap[p]? := (HCH.out.obj p (by have := HBW.out.size; omega) (fun cs hat => H26.out cs ((HBW.out.block p lp).symm.trans hat))).trans (HBW.out.block p lp)
    have eM : w1.heap[w.heap.size + 1]? = some (.map #[] 0) := (HCH.out.obj _ (by have := HZW.out; omega) (fun cs hat => by have h := M1.out; unfold At at hat; rw [hat] at h; cases h)).trans M1.out
    have x104 : w1.cell? ⟨p, 104, none⟩ = some (.pointer (some ⟨Q, 0, none⟩)) := (World.cell?_of_block (a := ⟨p, 104, none⟩) eP).trans h104
    have xf104 : w1.frozen? ⟨p, 104, none⟩ = false := (World.frozen?_of_block (a := ⟨p, 104, none⟩) eP).trans f104
    have x177 : w1.cell? ⟨p, 177, none⟩ = some (.slice a n c) := (World.cell?_of_block (a := ⟨p, 177, none⟩) eP).trans h177
    have xf177 : w1.frozen? ⟨p, 177, none⟩ = false := (World.frozen?_of_block (a := ⟨p, 177, none⟩) eP).trans f177
    have y2 : w1.cell? ⟨Q, 2, none⟩ = some (.slice (some ⟨gq, 0, none⟩) nc cc) := by rw [AQ1.cell]; rfl
    have yf2 := AQ1.frozen 2
    have y14 : w1.cell? ⟨Q, 14, none⟩ = some (.int .u8 smQ) := by rw [AQ1.cell]; rfl
    have y6 : w1.cell? ⟨Q, 6, none⟩ = some (il ulQ) := by rw [AQ1.cell]; rfl
    have z14 : w1.cell? ⟨w.heap.size + 1 + 1, 14, none⟩ = some (.int .u8 0) := by rw [AS1.cell]; rfl
    have z6 : w1.cell? ⟨w.heap.size + 1 + 1, 6, none⟩ = some (il 0) := by rw [AS1.cell]; rfl
    have zf14 := AS1.frozen 14
    have zf6 := AS1.frozen 6
    have lQ1' := AQ1.lt
    have lS1' := AS1.lt
    have lP1' : p < w1.heap.size := by omega
    have nQS : ¬ Q = w.heap.size + 1 + 1 := by omega
    have nSQ : ¬ w.heap.size + 1 + 1 = Q := by omega
    have nPQ : ¬ p = Q := fun e => hQp e.symm
    have nQP : ¬ Q = p := hQp
    have nPS : ¬ p = w.heap.size + 1 + 1 := by omega
    have nSP : ¬ w.heap.size + 1 + 1 = p := by omega
    have HAQ1 := Lib.hid AQ1
    have HAS1 := Lib.hid AS1
    have HAB1 := Lib.hid AB1
    have HEM := Lib.hid eM
    have HEP := Lib.hid eP
    clear AQ1 AS1 AB1 eP eM h104 f104 h177 f177 hg0 hg1 q2 qf2
    go_wp2_with fail
    have HV0 := Lib.hid (Eq.refl ((((w1.setCell ⟨Q, 2, none⟩ (.slice ac' (nc + 1) cc')).setCell ⟨w.heap.size + 1 + 1, 14, none⟩ (.int .u8 smQ)).setCell ⟨w.heap.size + 1 + 1, 6, none⟩ (il ulQ)).setCell ⟨p, 104, none⟩ (.pointer (some ⟨w.heap.size + 1 + 1, 0, none⟩))))
    obtain ⟨V, hV⟩ : ∃ V, V = ((((w1.setCell ⟨Q, 2, none⟩ (.slice ac' (nc + 1) cc')).setCell ⟨w.heap.size + 1 + 1, 14, none⟩ (.int .u8 smQ)).setCell ⟨w.heap.size + 1 + 1, 6, none⟩ (il ulQ)).setCell ⟨p, 104, none⟩ (.pointer (some ⟨w.heap.size + 1 + 1, 0, none⟩))) := ⟨_, rfl⟩
    have zV : V.heap.size = w1.heap.size := by rw [hV]; simp [World.setCell]
    have far : ∀ {x : Nat} {T : TypeId} {cs : Array Value}, At w1 x T cs → x ≠ Q → x ≠ w.heap.size + 1 + 1 → x ≠ p → At V x T cs := fun h h1 h2 h3 => by
      rw [hV]
      exact (((h.far (by simpa using h1) _).far (by simpa using h2) _).far (by simpa using h2) _).far (by simpa using h3) _
    have farH : ∀ x, x ≠ Q → x ≠ w.heap.size + 1 + 1 → x ≠ p → V.heap[x]? = w1.heap[x]? := fun x h1 h2 h3 => by
      rw [hV, Below.heap_setCell _ _ _ x (by simpa using h3), Below.heap_setCell _ _ _ x (by simpa using h2), Below.heap_setCell _ _ _ x (by simpa using h2), Below.heap_setCell _ _ _ x (by simpa using h1)]
    have AB := Lib.hid (far HAB1.out (by omega) (by omega) (by omega))
    have AS := Lib.hid (show At V (w.heap.size + 1 + 1) 41 (scv (.pointer (some ⟨Q, 0, none⟩)) (.slice none 0 0) (w.heap.size + 1) ulQ smQ kd) from by
      rw [hV]
      exact (((HAS1.out.far (by simpa using nSQ) _).set 14 _).set 6 _).far (by simpa using nSP) _)
    have AQ := Lib.hid (show At V Q 41 (scv pvQ (.slice ac' (nc + 1) cc') mbQ ulQ smQ kdQ) from by
      rw [hV]
      exact (((HAQ1.out.set 2 _).far (by simpa using nQS) _).far (by simpa using nQS) _).far (by simpa using nQP) _)
    have AM := Lib.hid (show V.heap[w.heap.size + 1]? = some (.map #[] 0) from (farH _ (by omega) (by omega) (by omega)).trans HEM.out)
    have KR1 : KR w1 V := KR.same (fun g cur h => far h (fun e => atNe h HAQ1.out (by decide) e) (fun e => atNe h HAS1.out (by decide) e) (fun e => by
      subst e
      exact H26.out cur (HEP.out.symm.trans h)))
    have RV := Lib.hid (HCH.out.row.kr KR1)
    have KRV := Lib.hid (((KR.same (fun g cur h => h.below HBW.out h.lt) : KR w W).trans HCH.out.kr).trans KR1)
    have OV := Lib.hid (show V.ownsRow B 188 2 (.slice a n c) n xs from ownKeep0 HO.out (fun x cs hx hat => by
      have h1 := HCH.out.blk x 188 cs (by decide) (hat.below HBW.out hat.lt)
      have h2 := far h1 (fun e => atNe hat HQ.out (by decide) e) (by have := hat.lt; omega) (by have := (World.ownsRow.lt HO.out x hx).1; omega)
      exact h2.trans hat.symm))
    have KV := Lib.hid (show ∀ x, x < w.heap.size → x ≠ p → x ≠ Q → (∀ cs, ¬ At w x 26 cs) → V.heap[x]? = w.heap[x]? from fun x hx h1 h2 h3 =>
      ((farH x h2 (by omega) h1).trans (HCH.out.obj x (by have := HBW.out.size; omega) (fun cs hat => h3 cs ((HBW.out.block x hx).symm.trans hat)))).trans (HBW.out.block x hx))
    have TY := Lib.hid (show ∃ cs, At V p 186 cs from by
      obtain ⟨cs, h⟩ := HTY.out
      rw [hV]
      exact ⟨_, ((((show At w1 p 186 cs from HEP.out.trans h).far (by simpa using nPQ) _).far (by simpa using nPS) _).far (by simpa using nPS) _).set 104 _⟩)
    have v177 : V.cell? ⟨p, 177, none⟩ = some (.slice a n c) := by rw [hV]; simp [go_sem, *]
    have vf177 : V.frozen? ⟨p, 177, none⟩ = false := by rw [hV]; simp [go_sem, *]
    have v104 : V.cell? ⟨p, 104, none⟩ = some (.pointer (some ⟨w.heap.size + 1 + 1, 0, none⟩)) := by rw [hV]; simp [go_sem, *]
    have vf104 : V.frozen? ⟨p, 104, none⟩ = false := by rw [hV]; simp [go_sem, *]
    have vb : V.cell? ⟨w.heap.size, 0, none⟩ = some (il loc) := by rw [AB.out.cell]; rfl
    have szV : w.heap.size ≤ w1.heap.size := by have := HBW.out.size; have := HCH.out.size; omega
    have lpV : p < V.heap.size := by omega
    have lbV := AB.out.lt
    have l3V := AS.out.lt
    have lmV : w.heap.size + 1 < V.heap.size := by omega
    have BV := Lib.hid (show ∀ B0, B0 ≤ p → B0 ≤ Q → B0 ≤ lo → Below B0 w V from fun B0 h1 h2 h3 => by
      rw [hV]
      exact ((((BG.out B0 (by omega) h3).setCell (by simpa using h2) _).setCell (by simp; omega) _).setCell (by simp; omega) _).setCell (by simpa using h1) _)
    rw [← hV]
    clear hV zV far farH KR1 szV x104 xf104 x177 xf177 y2 yf2 y14 y6 z14 z6 zf14 zf6
    have hgp := HP.out
    obtain ⟨g0, c0, hgg, _, _, _, csx, hax⟩ : ∃ g c', (Value.slice a n c) = .slice (some ⟨g, 0, none⟩) n c' ∧ B ≤ g ∧ n ≤ c' ∧ c' ≤ maxLen ∧ ∃ cs, At V g 188 cs := by
      obtain ⟨h0, ⟨_, h⟩ | ⟨g, cap, cur, h1, h2, h3, h4, h5, _⟩⟩ := OV.out
      · omega
      · exact ⟨g, cap, h1, h2, h4, h5, cur, h3⟩
    simp only [Value.slice.injEq] at hgg
    obtain ⟨rfl, _, rfl⟩ := hgg
    have q1 : V.cell? ⟨g0, (n - 1) * 2 + 1, none⟩ = some (il prev) := by rw [World.ownsRow.cellAt OV.out _ (by omega)]; exact hgp.1
    have lg0 := hax.lt
    obtain ⟨m1, hm1⟩ : ∃ m1, m1 = n - 1 := ⟨_, rfl⟩
    rw [← hm1] at q1
    have e1 : (n : Int) - 1 = (m1 : Int) := by omega
    have e2 : IntKind.i64.wrap ((n : Int) - 1) = (m1 : Int) := by rw [e1]; exact IntWalk.i64_in _ (by omega)
    have hmz : (0 : Int) ≤ (m1 : Int) := Int.natCast_nonneg _
    have hmn : (m1 : Int) < (n : Int) := by omega
    have hpl : ¬ loc ≤ prev := by have := hgp.2; omega
    clear hgp hax hm1 csx
    go_quiet (fail)
    obtain ⟨U, hU⟩ : ∃ U, U = V.drewN nq := ⟨_, rfl⟩
    have OV := Lib.hid (show U.ownsRow B 188 2 (.slice (some ⟨g0, 0, none⟩) n c) n xs from by rw [hU]; exact OV.out)
    have AB := Lib.hid (show At U w.heap.size 33 #[il loc] from by rw [hU]; exact AB.out)
    have AS := Lib.hid (show At U (w.heap.size + 1 + 1) 41 (scv (.pointer (some ⟨Q, 0, none⟩)) (.slice none 0 0) (w.heap.size + 1) ulQ smQ kd) from by rw [hU]; exact AS.out)
    have AQ := Lib.hid (show At U Q 41 (scv pvQ (.slice ac' (nc + 1) cc') mbQ ulQ smQ kdQ) from by rw [hU]; exact AQ.out)
    have AM := Lib.hid (show U.heap[w.heap.size + 1]? = some (.map #[] 0) from by rw [hU]; exact AM.out)
    have KV := Lib.hid (show ∀ x, x < w.heap.size → x ≠ p → x ≠ Q → (∀ cs, ¬ At w x 26 cs) → U.heap[x]? = w.heap[x]? from by rw [hU]; exact KV.out)
    have RV := Lib.hid (show ROW U lo (.slice ac' (nc + 1) cc') (m0 + 1) from by rw [hU]; exact RV.out)
    have KRV := Lib.hid (show KR w U from by rw [hU]; exact KRV.out)
    have BV := Lib.hid (show ∀ B0, B0 ≤ p → B0 ≤ Q → B0 ≤ lo → Below B0 w U from fun B0 h1 h2 h3 => by rw [hU]; exact below_drewN (BV.out B0 h1 h2 h3) _)
    have TY := Lib.hid (show ∃ cs, At U p 186 cs from by rw [hU]; exact TY.out)
    have w177 : U.cell? ⟨p, 177, none⟩ = some (.slice (some ⟨g0, 0, none⟩) n c) := by rw [hU]; exact v177
    have wf177 : U.frozen? ⟨p, 177, none⟩ = false := by rw [hU]; exact vf177
    have w104 : U.cell? ⟨p, 104, none⟩ = some (.pointer (some ⟨w.heap.size + 1 + 1, 0, none⟩)) := by rw [hU]; exact v104
    have wf104 : U.frozen? ⟨p, 104, none⟩ = false := by rw [hU]; exact vf104
    have wb : U.cell? ⟨w.heap.size, 0, none⟩ = some (il loc) := by rw [AB.out.cell]; rfl
    have lpU : p < U.heap.size := by rw [hU]; exact lpV
    have lbU : w.heap.size < U.heap.size := by rw [hU]; exact lbV
    have l3U : w.heap.size + 1 + 1 < U.heap.size := by rw [hU]; exact l3V
    rw [← hU]
    clear hU v177 vf177 v104 vf104 vb lpV lbV l3V q1 e1 e2
    go_wp2_with fail
    have x177 : U.cell? ⟨p, 177, none⟩ = some (.slice (some ⟨g0, 0, none⟩) n c) := w177
    obtain ⟨g, cap, w1', hrun, hown1, hgrow, hlie, hlt2⟩ := appRun_lies (P := Tryf.prog) ((U.alloc (.cells #[.pointer (some ⟨w.heap.size + 1 + 1, 0, none⟩), il loc] 188)).drew) 161 161 B 188 i0 _ 2 16 Tryf.underlying161 I0.out I1.out I2.out I3.out rfl (by omega) (.slice (some ⟨g0, 0, none⟩) n c) n xs ((OV.out.alloc _).drew) ⟨U.heap.size, 0, none⟩ 1 1 [.pointer (some ⟨w.heap.size + 1 + 1, 0, none⟩), il loc] (by rfl) (World.news_of_block (cs := #[.pointer (some ⟨w.heap.size + 1 + 1, 0, none⟩), il loc]) (t := 188) (fr := (0, 0)) (heap_alloc_new U _)) (by simp [Value.oneCell']) (by omega) (by unfold maxLen; omega) (by omega) (by simp; omega) (U.heap.size + 1) (by simp)
    have hneo : (Value.slice (some ⟨g0, 0, none⟩) n c).ownBlock ≠ some p := fun e => by have := (World.ownsRow.lt OV.out p e).1; omega
    have kp : ∀ o, w1'.cell? ⟨p, o, none⟩ = U.cell? ⟨p, o, none⟩ := fun o => (World.cell?_of_block (a := ⟨p, o, none⟩) (hgrow.block p (by simp; omega) (Ne.symm hneo))).trans (World.cell?_alloc_lt _ _ _ lpU)
    have kf : ∀ o, w1'.frozen? ⟨p, o, none⟩ = U.frozen? ⟨p, o, none⟩ := fun o => (World.frozen?_of_block (a := ⟨p, o, none⟩) (hgrow.block p (by simp; omega) (Ne.symm hneo))).trans (((Below.refl U.heap.size U).alloc (Nat.le_refl _) _).frozen (p := ⟨p, o, none⟩) lpU)
    have y177 : w1'.cell? ⟨p, 177, none⟩ = some (.slice (some ⟨g0, 0, none⟩) n c) := (kp _).trans w177
    have z177 : w1'.frozen? ⟨p, 177, none⟩ = false := (kf _).trans wf177
    have y104 : w1'.cell? ⟨p, 104, none⟩ = some (.pointer (some ⟨w.heap.size + 1 + 1, 0, none⟩)) := (kp _).trans w104
    have z104 : w1'.frozen? ⟨p, 104, none⟩ = false := (kf _).trans wf104
    have lp1' := World.block_lt_of_cell? _ _ y177
    have HOW := Lib.hid hown1
    have HGR := Lib.hid hgrow
    have HNE := Lib.hid hneo
    clear hown1 hgrow hlie hneo x177 kp kf
    go_region
    go_wp2_with fail
    go_ret
    have HX := Lib.hid (ownKeep0 (w' := w1'.setCell ⟨p, 177, none⟩ (.slice (some ⟨g, 0, none⟩) (n + 1) cap)) HOW.out (fun x cs hx hat => Below.heap_setCell _ _ _ x (by
      simp only [Value.ownBlock, Option.some.injEq] at hx
      have := (World.ownsRow.lt HOW.out x (by simp [Value.ownBlock, hx])).1
      simp; omega)))
    have kw : ∀ x, x < U.heap.size → x ≠ p → (Value.slice (some ⟨g0, 0, none⟩) n c).ownBlock ≠ some x → (w1'.setCell ⟨p, 177, none⟩ (.slice (some ⟨g, 0, none⟩) (n + 1) cap)).heap[x]? = U.heap[x]? := fun x hx hxp hxo => by
      rw [Below.heap_setCell _ _ _ x (by simpa using hxp), HGR.out.block x (by simp; omega) (Ne.symm hxo)]
      exact Below.heap_alloc U _ x hx
    have own3 : ∀ x cs t, t ≠ 188 → At U x t cs → (Value.slice (some ⟨g0, 0, none⟩) n c).ownBlock ≠ some x := fun x cs t ht hat e => by
      obtain ⟨h0, ⟨h, _⟩ | ⟨g', cap', cur, h1, _, h3, _⟩⟩ := OV.out
      · rw [h] at e; cases e
      · rw [h1] at e
        simp only [Value.ownBlock, Option.some.injEq] at e
        exact atNe hat h3 ht e.symm
    have hszU : w.heap.size ≤ U.heap.size := by omega
    have KRU : KR U (w1'.setCell ⟨p, 177, none⟩ (.slice (some ⟨g, 0, none⟩) (n + 1) cap)) := KR.same (fun x cur h => (kw x h.lt (fun e => by subst e; obtain ⟨cs, h'⟩ := TY.out; exact atNe h h' (by decide) rfl) (own3 x cur 26 (by decide) h)).trans h)
    refine ⟨rfl, ⟨some ⟨g, 0, none⟩, cap, ⟨?_, ?_, ?_, ?_, ?_⟩, HX.out⟩, ?_, ?_, ⟨_, ?_, RV.out.kr KRU⟩, KRV.out.trans KRU, ?_, fun x hx h1 h2 h3 h4 => ?_, fun B0 h1 h2 h3 => ?_⟩
    · rw [World.cell?_setCell_other _ _ _ _ (by intro e; injection e with _ e2 _; omega)]; exact y104
    · simp [go_sem, *]
    · simp [go_sem, *]
    · simp [go_sem, *]
    · obtain ⟨cs, h⟩ := TY.out
      exact ⟨_, (show At w1' p 186 cs from (HGR.out.block p (by simp; omega) (Ne.symm HNE.out)).trans ((h.alloc _).drew)).set 177 _⟩
    · exact (kw _ (by omega) (by omega) (own3 _ _ _ (by decide) AS.out)).trans AS.out
    · refine (kw _ (by omega) (by omega) ?_).trans AM.out
      intro e
      obtain ⟨h0, ⟨h, _⟩ | ⟨g', cap', cur, h1, _, h3, _⟩⟩ := OV.out
      · rw [h] at e; cases e
      · rw [h1] at e
        simp only [Value.ownBlock, Option.some.injEq] at e
        rw [e, AM.out] at h3
        cases h3
    · exact (kw _ AQ.out.lt hQp (own3 _ _ _ (by decide) AQ.out)).trans AQ.out
    · have := HGR.out.size
      simp [World.setCell] at *
      omega
    · exact (kw x (by omega) h1 h3).trans (KV.out x hx h1 h2 h4)
    · exact (Below.grown (((BV.out B0 h1 h2 h3).alloc (by have := h1; omega) _).drew) HGR.out (by simp; omega) (fun x hx => by have := (World.ownsRow.lt OV.out x hx).1; omega)).setCell (by simpa using h1) _
end PS
end Go.Proofs.YthgcchgpplblbaaFmt
