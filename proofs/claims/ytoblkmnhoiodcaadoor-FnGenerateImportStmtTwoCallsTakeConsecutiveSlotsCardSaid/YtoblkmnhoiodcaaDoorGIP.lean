/- Proved here: the plain law under the two laws of generateImportStmt: the map of names, the maps of items and of named imports, the least location. Conditions as stated. -/
import Derived.Test.YtoblkmnhoiodcaaDoorGIN
import Derived.Test.YtoblkmnhoiodcaaDoorGIM
namespace Go.Proofs.YtoblkmnhoiodcaaDoor
namespace GI
open Go.RowKit IM
set_option linter.unusedSimpArgs false
set_option linter.unusedVariables false
/-- The map of names behind i aliases: each alias's location and ref. -/
def smf (zs : List ByteArray) (loc : Nat → Int) (σ : Int) : Nat → List (ByteArray × Value)
  | 0 => []
  | i + 1 => upd (smf zs loc σ i) (zs.getD i ByteArray.empty) (.agg #[.int .i32 (loc i), .int .u32 σ, .int .u32 ((i : Int) + 1)])
theorem look_mem {K : Type} [DecidableEq K] {L : List (K × Value)} {k : K} {v : Value} (h : IM.look L k = some v) : (k, v) ∈ L := by
  induction L with
  | nil => cases h
  | cons p L ih =>
    unfold IM.look at h
    split at h
    · rename_i e
      simp only [Option.some.injEq] at h
      subst e h
      simp
    · exact List.mem_cons_of_mem _ (ih h)
theorem upd_mem {K : Type} [DecidableEq K] {L : List (K × Value)} {k : K} {v : Value} {p : K × Value} (h : p ∈ upd L k v) : p = (k, v) ∨ (p ∈ L) := by
  induction L with
  | nil => left; simpa [upd] using h
  | cons q L ih =>
    unfold upd at h
    split at h
    · rcases List.mem_cons.1 h with h | h
      · exact .inl h
      · exact .inr (List.mem_cons_of_mem _ h)
    · rcases List.mem_cons.1 h with h | h
      · exact .inr (by rw [h]; simp)
      · rcases ih h with h | h
        · exact .inl h
        · exact .inr (List.mem_cons_of_mem _ h)
/-- No key stands twice. -/
def UK {K : Type} (L : List (K × Value)) : Prop := (L.map (·.1)).Nodup
theorem UK.upd {K : Type} [DecidableEq K] {L : List (K × Value)} (h : UK L) (k : K) (v : Value) : UK (upd L k v) := by
  induction L with
  | nil => simp [UK, IM.upd]
  | cons q L ih =>
    simp only [UK, List.map_cons, List.nodup_cons] at h
    unfold IM.upd
    split
    · rename_i e
      simp only [UK, List.map_cons, List.nodup_cons]
      exact ⟨e ▸ h.1, h.2⟩
    · rename_i e
      simp only [UK, List.map_cons, List.nodup_cons]
      refine ⟨fun hm => ?_, ih h.2⟩
      obtain ⟨p, hp, hpe⟩ := List.mem_map.1 hm
      rcases upd_mem hp with hp | hp
      · rw [hp] at hpe
        exact e hpe.symm
      · exact h.1 (List.mem_map.2 ⟨p, hp, hpe⟩)
theorem UK.look {K : Type} [DecidableEq K] {L : List (K × Value)} (h : UK L) {p : K × Value} (hp : p ∈ L) : IM.look L p.1 = some p.2 := by
  induction L with
  | nil => cases hp
  | cons q L ih =>
    simp only [UK, List.map_cons, List.nodup_cons] at h
    unfold IM.look
    rcases List.mem_cons.1 hp with rfl | hp
    · rw [if_pos rfl]
    · rw [if_neg (fun e => h.1 (by rw [e]; exact List.mem_map.2 ⟨p, hp, rfl⟩))]
      exact ih h.2 hp
theorem smf_UK (zs : List ByteArray) (loc : Nat → Int) (σ : Int) : ∀ i, UK (smf zs loc σ i)
  | 0 => by simp [UK, smf]
  | i + 1 => (smf_UK zs loc σ i).upd _ _
theorem smf_mem {zs : List ByteArray} {loc : Nat → Int} {σ : Int} : ∀ {i} {p}, p ∈ smf zs loc σ i → ∃ j, j < i ∧ p.1 = zs.getD j ByteArray.empty ∧ p.2 = .agg #[.int .i32 (loc j), .int .u32 σ, .int .u32 ((j : Int) + 1)]
  | 0, p, h => by cases h
  | i + 1, p, h => by
    rcases upd_mem h with h | h
    · exact ⟨i, by omega, by rw [h], by rw [h]⟩
    · obtain ⟨j, h1, h2, h3⟩ := smf_mem h
      exact ⟨j, by omega, h2, h3⟩
theorem smf_LV (zs : List ByteArray) (loc : Nat → Int) (σ : Int) (m : Nat) : ∀ p ∈ smf zs loc σ m, LV p.2 := fun p hp => by
  obtain ⟨j, _, _, h⟩ := smf_mem hp
  exact ⟨_, _, _, h⟩
theorem smf_has {zs : List ByteArray} {loc : Nat → Int} {σ : Int} : ∀ {m i}, i < m → (IM.look (smf zs loc σ m) (zs.getD i ByteArray.empty)).isSome = true
  | 0, i, h => by omega
  | m + 1, i, h => by
    unfold smf
    rw [look_upd]
    split
    · rfl
    · rename_i e
      have : i ≠ m := fun e2 => e (by rw [e2])
      exact smf_has (by omega)
/-- What an alias is mapped to. -/
theorem smf_lk {zs : List ByteArray} {loc : Nat → Int} {σ : Int} {m i : Nat} (h : i < m) : ∃ j, j < m ∧ zs.getD j ByteArray.empty = zs.getD i ByteArray.empty ∧ IM.look (smf zs loc σ m) (zs.getD i ByteArray.empty) = some (lk (smf zs loc σ m) (zs.getD i ByteArray.empty)) ∧ lk (smf zs loc σ m) (zs.getD i ByteArray.empty) = .agg #[.int .i32 (loc j), .int .u32 σ, .int .u32 ((j : Int) + 1)] := by
  obtain ⟨v, hv⟩ := Option.isSome_iff_exists.1 (smf_has (loc := loc) (σ := σ) h)
  obtain ⟨j, h1, h2, h3⟩ := smf_mem (look_mem hv)
  have e : lk (smf zs loc σ m) (zs.getD i ByteArray.empty) = v := by unfold lk; rw [hv]; rfl
  exact ⟨j, h1, h2.symm, by rw [hv, e], by rw [e]; exact h3⟩
theorem smf_ref {zs : List ByteArray} {loc : Nat → Int} {σ : Int} {m i k : Nat} (hi : i < m) (hk : k < m) (h : refOf (lk (smf zs loc σ m) (zs.getD i ByteArray.empty)) = refOf (lk (smf zs loc σ m) (zs.getD k ByteArray.empty))) : zs.getD i ByteArray.empty = zs.getD k ByteArray.empty := by
  obtain ⟨j, h1, h2, _, h3⟩ := smf_lk (zs := zs) (loc := loc) (σ := σ) hi
  obtain ⟨j', h1', h2', _, h3'⟩ := smf_lk (zs := zs) (loc := loc) (σ := σ) hk
  rw [h3, h3'] at h
  have h : (σ, (j : Int) + 1) = (σ, (j' : Int) + 1) := h
  simp only [Prod.mk.injEq] at h
  have : j = j' := by omega
  rw [← h2, ← h2', this]
theorem smf_src {zs : List ByteArray} {loc : Nat → Int} {σ : Int} {m i : Nat} (hi : i < m) : (refOf (lk (smf zs loc σ m) (zs.getD i ByteArray.empty))).1 = σ := by
  obtain ⟨j, h1, h2, _, h3⟩ := smf_lk (zs := zs) (loc := loc) (σ := σ) hi
  rw [h3]; rfl
theorem fLi_look {L : List (ByteArray × Value)} {zs : List ByteArray} {Li : List ((Int × Int) × Value)} : ∀ {m i}, i < m → IM.look (fLi L zs Li m) (refOf (lk L (zs.getD i ByteArray.empty))) = some (.bool true)
  | 0, i, h => by omega
  | m + 1, i, h => by
    unfold fLi
    rw [look_upd]
    split
    · rfl
    · rename_i e
      have : i ≠ m := fun e2 => e (by rw [e2])
      exact fLi_look (by omega)
theorem fLn_look {L : List (ByteArray × Value)} {zs : List ByteArray} {ns : Int} {n : Nat} {Ln : List ((Int × Int) × Value)} {M : Nat} (inj : ∀ i k, i < M → k < M → refOf (lk L (zs.getD i ByteArray.empty)) = refOf (lk L (zs.getD k ByteArray.empty)) → zs.getD i ByteArray.empty = zs.getD k ByteArray.empty) : ∀ {m i}, m ≤ M → i < m → IM.look (fLn L zs ns n Ln m) (refOf (lk L (zs.getD i ByteArray.empty))) = some (niOf L (zs.getD i ByteArray.empty) ns n)
  | 0, i, _, h => by omega
  | m + 1, i, hM, h => by
    unfold fLn
    rw [look_upd]
    split
    · rename_i e
      rw [inj m i (by omega) (by omega) e]
    · rename_i e
      have : i ≠ m := fun e2 => e (by rw [e2])
      exact fLn_look inj (by omega) (by omega)
theorem fLn_far {L : List (ByteArray × Value)} {zs : List ByteArray} {ns : Int} {n : Nat} {Ln : List ((Int × Int) × Value)} {r : Int × Int} : ∀ {m}, (∀ i, i < m → refOf (lk L (zs.getD i ByteArray.empty)) ≠ r) → IM.look (fLn L zs ns n Ln m) r = IM.look Ln r
  | 0, _ => rfl
  | m + 1, h => by
    unfold fLn
    rw [look_upd, if_neg (h m (by omega))]
    exact fLn_far (fun i hi => h i (by omega))
/-- The least location of the first k aliases. -/
def minL (L : List (ByteArray × Value)) (zs : List ByteArray) : Nat → Int
  | 0 => locOf (lk L (zs.getD 0 ByteArray.empty))
  | k + 1 => if locOf (lk L (zs.getD (k + 1) ByteArray.empty)) < minL L zs k then locOf (lk L (zs.getD (k + 1) ByteArray.empty)) else minL L zs k
theorem minL_spec (L : List (ByteArray × Value)) (zs : List ByteArray) : ∀ k, (∃ i, i ≤ k ∧ minL L zs k = locOf (lk L (zs.getD i ByteArray.empty))) ∧ ∀ i, i ≤ k → minL L zs k ≤ locOf (lk L (zs.getD i ByteArray.empty))
  | 0 => ⟨⟨0, Nat.le_refl _, rfl⟩, fun i hi => by
    have e : i = 0 := by omega
    subst e
    exact Int.le_refl _⟩
  | k + 1 => by
    obtain ⟨⟨j, hj, he⟩, hle⟩ := minL_spec L zs k
    unfold minL
    split
    · rename_i hlt
      refine ⟨⟨k + 1, Nat.le_refl _, rfl⟩, fun i hi => ?_⟩
      by_cases e : i = k + 1
      · subst e; exact Int.le_refl _
      · have := hle i (by omega); omega
    · rename_i hge
      refine ⟨⟨j, by omega, he⟩, fun i hi => ?_⟩
      by_cases e : i = k + 1
      · subst e; omega
      · exact hle i (by omega)
/-- The law's own answer is the statement's. -/
theorem loc_law {zs : List ByteArray} {loc : Nat → Int} {σ st rl st' : Int} {m : Nat} (h : LocP (smf zs loc σ m) st rl st') : (rl = 0 ∧ 0 < m → st' = minL (smf zs loc σ m) zs (m - 1)) ∧ (¬ (rl = 0 ∧ 0 < m) → st' = st) := by
  obtain ⟨h1, h2, h3⟩ := h
  have hne : 0 < m → smf zs loc σ m ≠ [] := fun hm e => by
    have := smf_has (zs := zs) (loc := loc) (σ := σ) (i := 0) hm
    rw [e] at this
    cases this
  refine ⟨fun ⟨hr, hm⟩ => ?_, fun hn => ?_⟩
  · obtain ⟨⟨p, hp, hpe⟩, hle⟩ := h3 hr (hne hm)
    obtain ⟨⟨i, hi, he⟩, hmin⟩ := minL_spec (smf zs loc σ m) zs (m - 1)
    obtain ⟨j, hj, hj1, hj2⟩ := smf_mem hp
    have hlp : lk (smf zs loc σ m) (zs.getD j ByteArray.empty) = p.2 := by
      unfold lk
      rw [← hj1, (smf_UK zs loc σ m).look hp]
      rfl
    have a1 := hmin j (by omega)
    rw [hlp] at a1
    obtain ⟨_, _, _, hs, _⟩ := smf_lk (zs := zs) (loc := loc) (σ := σ) (show i < m by omega)
    have a2 := hle _ (look_mem hs)
    simp only at a2
    omega
  · by_cases hr : rl = 0
    · have hm : m = 0 := by omega
      exact h2 (by rw [hm]; rfl)
    · exact h1 hr
end GI
end Go.Proofs.YtoblkmnhoiodcaaDoor
