/- Proved here: the contract of zzBuildArgs. Conditions: the lists' cells and lengths, as stated. -/
import Derived.Test.YtlggmjnlkndpkaaSPA
import Derived.WalkKit
import Derived.WalkSpells
import Derived.WalkLawsBesides
import Derived.Lib.Hide
import Derived.Lib.SliceRun
import Derived.Deep.RegionWith
namespace Go.Proofs.Ytlggmjnlkndpkaa
open Go.RowKit
set_option linter.unusedSimpArgs false
set_option linter.unusedVariables false

def ZeroC (cs : Array Value) (i : Nat) : Prop := cs[i * 6]? = some (.nilIface) ∧ cs[i * 6 + 1]? = some (.int .i32 0) ∧ cs[i * 6 + 2]? = some (.nilIface) ∧ cs[i * 6 + 3]? = some (.int .i32 0) ∧ cs[i * 6 + 4]? = some (.slice none 0 0) ∧ cs[i * 6 + 5]? = some (.bool false)
def ArgC (cs : Array Value) (i : Nat) (id df : Bool) : Prop :=
  ∃ t v l d l2, (id = true → t = 98) ∧ (id = false → t ≠ 98) ∧ (df = false → d = .nilIface) ∧ (df = true → ∃ t' v', d = .iface t' v') ∧
    cs[i * 6]? = some (.iface t v) ∧ cs[i * 6 + 1]? = some (.int .i32 l) ∧ cs[i * 6 + 2]? = some d ∧ cs[i * 6 + 3]? = some (.int .i32 l2) ∧ cs[i * 6 + 4]? = some (.slice none 0 0) ∧ cs[i * 6 + 5]? = some (.bool false)
theorem set_far {cs : Array Value} {p q : Nat} {u x : Value} (h : cs[q]? = some x) (hne : p ≠ q) : (cs.setIfInBounds p u)[q]? = some x := by
  rw [Array.getElem?_setIfInBounds_ne hne]; exact h
theorem set_at {cs : Array Value} {p : Nat} {u : Value} (h : p < cs.size) : (cs.setIfInBounds p u)[p]? = some u := by
  rw [Array.getElem?_setIfInBounds_self_of_lt h]
theorem ZeroC.far {cs : Array Value} {i p : Nat} {u : Value} (h : ZeroC cs i) (hne : p < i * 6 ∨ i * 6 + 5 < p) : ZeroC (cs.setIfInBounds p u) i := by
  obtain ⟨h0, h1, h2, h3, h4, h5⟩ := h
  exact ⟨set_far h0 (by omega), set_far h1 (by omega), set_far h2 (by omega), set_far h3 (by omega), set_far h4 (by omega), set_far h5 (by omega)⟩
theorem ArgC.far {cs : Array Value} {i p : Nat} {id df : Bool} {u : Value} (h : ArgC cs i id df) (hne : p < i * 6 ∨ i * 6 + 5 < p) : ArgC (cs.setIfInBounds p u) i id df := by
  obtain ⟨t, v, l, d, l2, g1, g2, g3, g4, h0, h1, h2, h3, h4, h5⟩ := h
  exact ⟨t, v, l, d, l2, g1, g2, g3, g4, set_far h0 (by omega), set_far h1 (by omega), set_far h2 (by omega), set_far h3 (by omega), set_far h4 (by omega), set_far h5 (by omega)⟩
theorem argc_plain {cs : Array Value} {i : Nat} {t : TypeId} {v : Value} {l : Int} (id : Bool) (h : ZeroC cs i) (hs : i * 6 + 5 < cs.size) (h1 : id = true → t = 98) (h2 : id = false → t ≠ 98) :
    ArgC ((cs.setIfInBounds (i * 6 + 1) (.int .i32 l)).setIfInBounds (i * 6) (.iface t v)) i id false := by
  obtain ⟨z0, z1, z2, z3, z4, z5⟩ := h
  refine ⟨t, v, l, .nilIface, 0, h1, h2, fun _ => rfl, (fun h => by cases h), ?_, ?_, ?_, ?_, ?_, ?_⟩
  · exact set_at (by simp; omega)
  · exact set_far (set_at (by omega)) (by omega)
  all_goals refine set_far (set_far (by assumption) (by omega)) (by omega)
theorem argc_def {cs : Array Value} {i : Nat} {t t' : TypeId} {v v' : Value} {l l2 : Int} (id : Bool) (h : ZeroC cs i) (hs : i * 6 + 5 < cs.size) (h1 : id = true → t = 98) (h2 : id = false → t ≠ 98) :
    ArgC ((((cs.setIfInBounds (i * 6 + 1) (.int .i32 l)).setIfInBounds (i * 6) (.iface t v)).setIfInBounds (i * 6 + 2) (.iface t' v')).setIfInBounds (i * 6 + 3) (.int .i32 l2)) i id true := by
  obtain ⟨z0, z1, z2, z3, z4, z5⟩ := h
  refine ⟨t, v, l, .iface t' v', l2, h1, h2, (fun h => by cases h), fun _ => ⟨_, _, rfl⟩, ?_, ?_, ?_, ?_, ?_, ?_⟩
  · exact set_far (set_far (set_at (by simp; omega)) (by omega)) (by omega)
  · exact set_far (set_far (set_far (set_at (by omega)) (by omega)) (by omega)) (by omega)
  · exact set_far (set_at (by simp; omega)) (by omega)
  · exact set_at (by simp; omega)
  all_goals refine set_far (set_far (set_far (set_far (by assumption) (by omega)) (by omega)) (by omega)) (by omega)
def idf (zs : List Int) (i : Nat) : Bool := decide (zs.getD i 0 % 4 = 0)
def dff (ds : List Bool) (m : Nat) (i : Nat) : Bool := decide (i < m) && ds.getD i false
def BRel (n m : Nat) (zs : List Int) (ds : List Bool) (w : World) (i : Value) (wr : World) : Prop :=
  ∃ (k : Nat) (cs : Array Value), k ≤ n ∧ i = .int .i64 k ∧ At wr w.heap.size 97 cs ∧ cs.size = n * 6 ∧ (∀ j, j < k → ArgC cs j (idf zs j) (dff ds m j)) ∧ (∀ j, k ≤ j → j < n → ZeroC cs j) ∧ Below w.heap.size w wr
def BuildPost (n m : Nat) (zs : List Int) (ds : List Bool) (w : World) (e : Ending) (w' : World) : Prop :=
  ∃ cs, e = .returned (.slice (some ⟨w.heap.size, 0, none⟩) n n) ∧ At w' w.heap.size 97 cs ∧ cs.size = n * 6 ∧ (∀ j, j < n → ArgC cs j (idf zs j) (dff ds m j)) ∧ Below w.heap.size w w'
theorem zero_made (n j : Nat) (h : j < n) : ZeroC (madeCells (Value.agg #[.nilIface, .int .i32 0, .nilIface, .int .i32 0, .slice none 0 0, .bool false]).cells (n * 6)) j := by
  have e : (Value.agg #[.nilIface, .int .i32 0, .nilIface, .int .i32 0, .slice none 0 0, .bool false]).cells.size = 6 := rfl
  refine ⟨?_, ?_, ?_, ?_, ?_, ?_⟩ <;> (simp only [madeCells]; rw [Array.getElem?_map, Array.getElem?_range]; rw [if_pos (by omega)]; simp [Value.cells, Nat.mul_add_mod_self_right, Nat.mul_mod_left])
set_option maxRecDepth 100000 in
set_option maxHeartbeats 16000000 in
theorem build_any (a : Option Addr) (n cap : Nat) (zs : List Int) (a2 : Option Addr) (m cap2 : Nat) (ds : List Bool) (w : World) (h : RowV w a n (fun i => .int .u8 (zs.getD i 0))) (h2 : RowV w a2 m (fun i => .bool (ds.getD i false))) (hz : ∀ i, i < n → 0 ≤ zs.getD i 0 ∧ zs.getD i 0 ≤ 255) (hn : n ≤ 1048576) (hm : m ≤ 1048576) :
    Calls Try.prog 17 #[.slice a n cap, .slice a2 m cap2] w (BuildPost n m zs ds w) := by
  have hmk := made (P := Try.prog) (t := 39) (e := 97) (z := .agg #[.nilIface, .int .i32 0, .nilIface, .int .i32 0, .slice none 0 0, .bool false]) (sz := 6) (by_ := 80) Try.underlying39 (by kernel_rfl) w n (by omega) (by omega)
  have H := Lib.hid h
  have H2 := Lib.hid h2
  have HZ := Lib.hid hz
  clear h h2 hz
  go_enter Try.func17, Try.ntmps17
  go_wp2_with fail
  go_loopw [6] (fun i wr => BRel n m zs ds w i wr) (fun i _ => n - (intOf i).toNat)
  case atStart => exact ⟨0, _, Nat.zero_le _, rfl, At.new _ _ _, by simp [size_madeCells, Value.cells], fun j hj => absurd hj (by omega), fun j _ hj => zero_made n j hj, (Below.refl _ _).alloc (Nat.le_refl _) _⟩
  case round =>
    obtain ⟨k, cs, hk, rfl, hat, hsz, hA, hZ, hb⟩ := hrel
    by_cases hlt : k < n
    · obtain ⟨B, off, ha, hcell⟩ := (H.out.below hb) (by omega)
      have c0 := hcell k hlt
      have hB : B < w.heap.size := by
        obtain ⟨B', off', ha', hcell'⟩ := H.out (by omega)
        rw [ha] at ha'
        cases ha'
        exact World.block_lt_of_cell? _ _ (hcell' k hlt)
      clear hcell
      subst ha
      obtain ⟨hz0, hz1⟩ := HZ.out k hlt
      have ID := Lib.hid (show idf zs k = decide (zs.getD k 0 % 4 = 0) from rfl)
      obtain ⟨z, hzz⟩ : ∃ z, z = zs.getD k 0 := ⟨_, rfl⟩
      simp only [← hzz] at c0 hz0 hz1
      rw [← hzz] at ID
      clear hzz
      have ZK := hZ k (Nat.le_refl _) hlt
      obtain ⟨y0, y1, y2, y3, y4, y5⟩ := id ZK
      have d0 : wr.cell? ⟨w.heap.size, k * 6, none⟩ = some .nilIface := by rw [hat.cell]; exact y0
      have d1 : wr.cell? ⟨w.heap.size, k * 6 + 1, none⟩ = some (.int .i32 0) := by rw [hat.cell]; exact y1
      have d2 : wr.cell? ⟨w.heap.size, k * 6 + 2, none⟩ = some .nilIface := by rw [hat.cell]; exact y2
      have d3 : wr.cell? ⟨w.heap.size, k * 6 + 3, none⟩ = some (.int .i32 0) := by rw [hat.cell]; exact y3
      have f0 := hat.frozen (k * 6)
      have f1 := hat.frozen (k * 6 + 1)
      have f2 := hat.frozen (k * 6 + 2)
      have f3 := hat.frozen (k * 6 + 3)
      have g0 := hat.lt
      have g1 : w.heap.size < wr.heap.size + 1 := by omega
      have g2 : B < wr.heap.size := by omega
      have g3 : B < wr.heap.size + 1 := by omega
      have hBn : B ≠ w.heap.size := by omega
      have hS : k * 6 + 5 < cs.size := by rw [hsz]; omega
      have HAT := Lib.hid hat
      have HA := Lib.hid hA
      have HSZ := Lib.hid hsz
      have HZK := Lib.hid ZK
      have HZ' := Lib.hid hZ
      have HS := Lib.hid hS
      clear hat hA hsz ZK hZ hS y0 y1 y2 y3 y4 y5
      have h4 : z % 4 = 0 ∨ z % 4 = 1 ∨ z % 4 = 2 ∨ z % 4 = 3 := by omega
      obtain ⟨q, hq⟩ : ∃ q, q = dff ds m k := ⟨_, rfl⟩
      have HQ := Lib.hid hq
      have step : (k < m ∧ ∃ B2 off2, a2 = some ⟨B2, off2, none⟩ ∧ B2 < w.heap.size ∧ wr.cell? ⟨B2, off2 + k, none⟩ = some (.bool q)) ∨ (¬ k < m ∧ q = false) := by
        by_cases c : k < m
        · left
          refine ⟨c, ?_⟩
          obtain ⟨B2, off2, e2, hc2⟩ := H2.out (by omega)
          refine ⟨B2, off2, e2, World.block_lt_of_cell? _ _ (hc2 k c), ?_⟩
          have := kept hb (hc2 k c)
          rw [this, hq]
          simp [dff, c]
        · right
          exact ⟨c, by rw [hq]; simp [dff, c]⟩
      clear hq
      rcases step with ⟨hkm, B2, off2, rfl, hB2, e0⟩ | ⟨hkm, rfl⟩
      · have g4 : B2 < wr.heap.size := by omega
        have g5 : B2 < wr.heap.size + 1 := by omega
        have hBn2 : B2 ≠ w.heap.size := by omega
        cases q
        · rcases h4 with h4 | h4 | h4 | h4
          all_goals
            rw [h4] at ID
            go_wp2_with fail
            go_roundw
            case rel =>
              refine ⟨k + 1, _, by omega, by go_num, (((HAT.out.set _ _).set _ _).alloc _), by simp [HSZ.out], ?_, ?_, (by repeat (first | with_reducible exact hb | (with_reducible refine Below.drew ?_) | (with_reducible refine Below.alloc ?_ (by have := Below.size hb; simp; try omega) _) | (with_reducible refine Below.setCell ?_ (by have := Below.size hb; simp; try omega) _)))⟩
              · intro j hj
                by_cases e : j = k
                · subst e; rw [← HQ.out]; exact argc_plain _ HZK.out HS.out (fun h => by rw [ID.out] at h <;> first | rfl | simp at h) (fun h => by rw [ID.out] at h <;> first | decide | simp at h)
                · exact ((HA.out j (by omega)).far (by omega)).far (by omega)
              · intro j h1 h2
                exact ((HZ'.out j (by omega) h2).far (by omega)).far (by omega)
            case measure => simp [intOf]; omega
        · rcases h4 with h4 | h4 | h4 | h4
          all_goals
            rw [h4] at ID
            go_wp2_with fail
            go_roundw
            case rel =>
              refine ⟨k + 1, _, by omega, by go_num, (((((HAT.out.set _ _).set _ _).set _ _).set _ _).alloc _).alloc _, by simp [HSZ.out], ?_, ?_, (by repeat (first | with_reducible exact hb | (with_reducible refine Below.drew ?_) | (with_reducible refine Below.alloc ?_ (by have := Below.size hb; simp; try omega) _) | (with_reducible refine Below.setCell ?_ (by have := Below.size hb; simp; try omega) _)))⟩
              · intro j hj
                by_cases e : j = k
                · subst e; rw [← HQ.out]; exact argc_def _ HZK.out HS.out (fun h => by rw [ID.out] at h <;> first | rfl | simp at h) (fun h => by rw [ID.out] at h <;> first | decide | simp at h)
                · exact ((((HA.out j (by omega)).far (by omega)).far (by omega)).far (by omega)).far (by omega)
              · intro j h1 h2
                exact ((((HZ'.out j (by omega) h2).far (by omega)).far (by omega)).far (by omega)).far (by omega)
            case measure => simp [intOf]; omega
      · have hdm : decide (k < m) = false := by simp; omega
        rcases h4 with h4 | h4 | h4 | h4
        all_goals
          rw [h4] at ID
          go_wp2_with fail
          go_roundw
          case rel =>
              refine ⟨k + 1, _, by omega, by go_num, (((HAT.out.set _ _).set _ _).alloc _), by simp [HSZ.out], ?_, ?_, (by repeat (first | with_reducible exact hb | (with_reducible refine Below.drew ?_) | (with_reducible refine Below.alloc ?_ (by have := Below.size hb; simp; try omega) _) | (with_reducible refine Below.setCell ?_ (by have := Below.size hb; simp; try omega) _)))⟩
              · intro j hj
                by_cases e : j = k
                · subst e; rw [← HQ.out]; exact argc_plain _ HZK.out HS.out (fun h => by rw [ID.out] at h <;> first | rfl | simp at h) (fun h => by rw [ID.out] at h <;> first | decide | simp at h)
                · exact ((HA.out j (by omega)).far (by omega)).far (by omega)
              · intro j h1 h2
                exact ((HZ'.out j (by omega) h2).far (by omega)).far (by omega)
          case measure => simp [intOf]; omega
    · have e : k = n := by omega
      subst e
      have HAT := Lib.hid hat
      have HA := Lib.hid hA
      have HSZ := Lib.hid hsz
      clear hat hA hZ hsz
      go_wp2_with fail
      go_ret
      exact ⟨cs, rfl, HAT.out, HSZ.out, HA.out, hb⟩
end Go.Proofs.Ytlggmjnlkndpkaa
