import Derived.Test.Qxb6606004aFmtStep
/-! One more arrival: plain lists, and what stays beside an Add. -/
namespace Go.Proofs.Qxb6606004aFmt
open Go.RowKit

theorem prevAt_mono {f : Int} {us : List Int} (h : incTo f us us.length = true) : ∀ (j i : Nat), i ≤ j → j ≤ us.length → prevAt f us i ≤ prevAt f us j
  | 0, i, hij, _ => by have : i = 0 := by omega
                       subst this; exact Int.le_refl _
  | j + 1, i, hij, hj => by
    by_cases e : i = j + 1
    · subst e; exact Int.le_refl _
    · have h1 := prevAt_mono h j i (by omega) (by omega)
      have h2 := incTo_at h (i := j) (by omega)
      rw [prevAt_succ]
      omega

/-- What a well-formed record says of its counts. -/
theorem wf_bounds {xs us : List Int} {f : Int} (h : wfArr xs us f = true) :
    (∀ i, i < us.length → 0 ≤ prevAt f us i ∧ prevAt f us i ≤ us.getD i 0 ∧ us.getD i 0 ≤ 9223372036854775807) ∧ 0 ≤ prevAt f us us.length ∧ prevAt f us us.length < 9223372036854775807 := by
  obtain ⟨_, h0, _, h1, h2⟩ := wfArr_true h
  have h2' : prevAt f us us.length < 9223372036854775807 := h2
  have hz : ∀ i, i ≤ us.length → 0 ≤ prevAt f us i := fun i hi => by
    have := prevAt_mono h1 i 0 (Nat.zero_le _) hi
    rw [prevAt_zero] at this
    omega
  refine ⟨fun i hi => ⟨hz i (by omega), ?_, ?_⟩, hz _ (Nat.le_refl _), h2'⟩
  · exact Int.le_of_lt (incTo_at h1 hi)
  · have := prevAt_mono h1 us.length (i + 1) (by omega) (Nat.le_refl _)
    rw [prevAt_succ] at this
    omega

theorem getD_append_left (us vs : List Int) (i : Nat) (h : i < us.length) : (us ++ vs).getD i 0 = us.getD i 0 := by
  rw [List.getD_eq_getElem?_getD, List.getElem?_append_left h, List.getD_eq_getElem?_getD]

theorem prevAt_append (f : Int) (us vs : List Int) (i : Nat) (h : i ≤ us.length) : prevAt f (us ++ vs) i = prevAt f us i := by
  unfold prevAt
  by_cases e : i = 0
  · rw [if_pos e, if_pos e]
  · rw [if_neg e, if_neg e, getD_append_left _ _ _ (by omega)]

theorem prevAt_set (f : Int) (us : List Int) (m i : Nat) (u : Int) (h : i ≤ m) : prevAt f (us.set m u) i = prevAt f us i := by
  unfold prevAt
  by_cases e : i = 0
  · rw [if_pos e, if_pos e]
  · rw [if_neg e, if_neg e, List.getD_eq_getElem?_getD, List.getElem?_set_ne (by omega), List.getD_eq_getElem?_getD]

/-- B: an arrival at a time of its own. -/
theorem counts_new (f : Int) (us : List Int) : counts f (us ++ [prevAt f us us.length + 1]) = counts f us ++ [1] := by
  unfold counts
  rw [List.length_append, List.length_cons, List.length_nil, List.range_succ, List.map_append]
  congr 1
  · apply List.map_congr_left
    intro i hi
    have hi' : i < us.length := by simpa using hi
    rw [getD_append_left _ _ _ hi', prevAt_append _ _ _ _ (by omega)]
  · simp only [List.map_cons, List.map_nil]
    rw [prevAt_append _ _ _ _ (Nat.le_refl _), List.getD_eq_getElem?_getD, List.getElem?_append_right (Nat.le_refl _)]
    simp
    omega

theorem bounds_new {f : Int} {us : List Int} (h : ∀ i, i < us.length → 0 ≤ prevAt f us i ∧ prevAt f us i ≤ us.getD i 0 ∧ us.getD i 0 ≤ 9223372036854775807) (h0 : 0 ≤ prevAt f us us.length) (h1 : prevAt f us us.length < 9223372036854775807) :
    ∀ i, i < (us ++ [prevAt f us us.length + 1]).length → 0 ≤ prevAt f (us ++ [prevAt f us us.length + 1]) i ∧ prevAt f (us ++ [prevAt f us us.length + 1]) i ≤ (us ++ [prevAt f us us.length + 1]).getD i 0 ∧ (us ++ [prevAt f us us.length + 1]).getD i 0 ≤ 9223372036854775807 := by
  intro i hi
  rw [List.length_append, List.length_cons, List.length_nil] at hi
  rw [prevAt_append _ _ _ _ (by omega)]
  by_cases e : i = us.length
  · subst e
    rw [List.getD_eq_getElem?_getD, List.getElem?_append_right (Nat.le_refl _)]
    simp
    omega
  · rw [getD_append_left _ _ _ (by omega)]
    exact h i (by omega)

/-- A: an arrival at the last recorded time. -/
theorem counts_same (f : Int) (us : List Int) (m : Nat) (hm : us.length = m + 1) : counts f (us.set m (us.getD m 0 + 1)) = (counts f us).set m ((counts f us).getD m 0 + 1) := by
  have hc : (counts f us).getD m 0 = us.getD m 0 - prevAt f us m := counts_at f us m (by omega)
  rw [hc]
  unfold counts
  rw [List.length_set, hm, List.range_succ, List.map_append, List.map_append, List.set_append_right _ _ (by simp)]
  congr 1
  · apply List.map_congr_left
    intro i hi
    have hi' : i < m := by simpa using hi
    rw [prevAt_set _ _ _ _ _ (by omega), List.getD_eq_getElem?_getD, List.getElem?_set_ne (by omega), List.getD_eq_getElem?_getD]
  · simp only [List.map_cons, List.map_nil, List.length_map, List.length_range, Nat.sub_self, List.set_cons_zero]
    rw [prevAt_set _ _ _ _ _ (Nat.le_refl _), List.getD_eq_getElem?_getD, List.getElem?_set_self (by omega)]
    simp only [Option.getD_some]
    congr 1
    omega

theorem bounds_same {f : Int} {us : List Int} {m : Nat} (hm : us.length = m + 1) (h : ∀ i, i < us.length → 0 ≤ prevAt f us i ∧ prevAt f us i ≤ us.getD i 0 ∧ us.getD i 0 ≤ 9223372036854775807) (h1 : us.getD m 0 < 9223372036854775807) :
    ∀ i, i < (us.set m (us.getD m 0 + 1)).length → 0 ≤ prevAt f (us.set m (us.getD m 0 + 1)) i ∧ prevAt f (us.set m (us.getD m 0 + 1)) i ≤ (us.set m (us.getD m 0 + 1)).getD i 0 ∧ (us.set m (us.getD m 0 + 1)).getD i 0 ≤ 9223372036854775807 := by
  intro i hi
  rw [List.length_set] at hi
  rw [prevAt_set _ _ _ _ _ (by omega)]
  have := h i hi
  by_cases e : i = m
  · subst e
    have hx : (us.set i (us.getD i 0 + 1)).getD i 0 = us.getD i 0 + 1 := by rw [List.getD_eq_getElem?_getD, List.getElem?_set_self (by omega)]; rfl
    rw [hx]
    omega
  · have hx : (us.set m (us.getD m 0 + 1)).getD i 0 = us.getD i 0 := by rw [List.getD_eq_getElem?_getD, List.getElem?_set_ne (by omega), List.getD_eq_getElem?_getD]
    rw [hx]
    exact this

/-- What an Add leaves of a row beside the record. -/
theorem Touch.keeps {S lo e n : Nat} {v0 v1 v : Value} {xs : List Value} {w w' : World} (hT : Touch S v0 v1 w w') (h : w.ownsRow lo e 1 v n xs) (hS : ∀ g, v.ownBlock = some g → g ≠ S ∧ v0.ownBlock ≠ some g ∧ v1.ownBlock ≠ some g) : w'.ownsRow lo e 1 v n xs :=
  ownsRow_of_block h (fun g hg => hT.block g (ownsRow_lt h hg).1 (hS g hg).1 (hS g hg).2.1 (hS g hg).2.2)
end Go.Proofs.Qxb6606004aFmt
